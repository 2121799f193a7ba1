import PyProof.Rows.All
import Wide.All
import OpenK.AllK
import Wide.FinOn
import Open.Tops
import KE.KNestM
import Lean
import PySem.Challenge.RW_to0079_01
set_option Elab.async false
set_option rowWalk.seconds 0
set_option maxRecDepth 100000
set_option maxHeartbeats 0
set_option pp.deepTerms false
set_option pp.maxSteps 3000
set_option linter.all false
set_option compiler.extract_closed false
set_option genSizeOfSpec false
set_option genInjectivity false
section
open PySem.Spec PyProof.V PySem PySem.W PySem.W.X PyProof.Rows PySem.Calls
section

end
section
open PySem PySem.W PySem.W.X PyProof.Rows PySem.Calls
namespace Mine
theorem fcons {α : Type} {P : α → Prop} {a : α} {l : List α} (h1 : P a) (h2 : ∀ p ∈ l, P p) : ∀ p ∈ a :: l, P p := fun p hp => (List.mem_cons.mp hp).elim (fun e => e ▸ h1) (h2 p)
theorem fnil {α : Type} {P : α → Prop} : ∀ p ∈ ([] : List α), P p := fun _ h => nomatch h
theorem fapp {α : Type} {P : α → Prop} {l r : List α} (h1 : ∀ p ∈ l, P p) (h2 : ∀ p ∈ r, P p) : ∀ p ∈ l ++ r, P p := fun p hp => (List.mem_append.mp hp).elim (h1 p) (h2 p)
theorem nin_app {a : Addr} {l r : List (Addr × Obj)} (h1 : a ∉ l.map (·.1)) (h2 : a ∉ r.map (·.1)) : a ∉ (l ++ r).map (·.1) := fun h => (List.mem_append.mp ((List.map_append (f := fun x : Addr × Obj => x.1) (l₁ := l) (l₂ := r)) ▸ h)).elim h1 h2
theorem consS {α : Type} {a : α} {l l' : List α} (h : ∀ p ∈ l', p ∈ l) : ∀ p ∈ a :: l', p ∈ a :: l := fcons (.head _) fun p hp => .tail _ (h p hp)
theorem appS {α : Type} {o o' X : List α} (h : ∀ p ∈ o', p ∈ o) : ∀ p ∈ o' ++ X, p ∈ o ++ X := fapp (fun p hp => List.mem_append_left _ (h p hp)) fun _ hp => List.mem_append_right _ hp
theorem nin_c {q a : Addr} {o : Obj} {l : List (Addr × Obj)} (h : q ≠ a) (h2 : q ∉ l.map (·.1)) : q ∉ ((a, o) :: l).map (·.1) := fun hx => (List.mem_cons.mp hx).elim h h2
theorem sz1000 {n : Nat} (h : n ≤ 1000) : n ≤ PySem.sizeLine := Nat.le_trans h (by decide)
theorem ex3 {A B C : Sort _} {p : A → B → C → Prop} (a : A) (b : B) (c : C) (h : p a b c) : ∃ a b c, p a b c := ⟨a, b, c, h⟩
theorem ex4 {A B C D : Sort _} {p : A → B → C → D → Prop} (a : A) (b : B) (c : C) (d : D) (h : p a b c d) : ∃ a b c d, p a b c d := ⟨a, b, c, d, h⟩
theorem ex9 {A B C D E F G H I : Sort _} {p : A → B → C → D → E → F → G → H → I → Prop} (a : A) (b : B) (c : C) (d : D) (e : E) (f : F) (g : G) (h : H) (i : I) (x : p a b c d e f g h i) : ∃ a b c d e f g h i, p a b c d e f g h i := ⟨a, b, c, d, e, f, g, h, i, x⟩
theorem mx3 {x y z m n : Int} (h : max (max x y) z = m) (hm : m ≤ n) : x ≤ n ∧ y ≤ n ∧ z ≤ n :=
  have a := Int.max_le.mp (h ▸ hm : max (max x y) z ≤ n)
  ⟨(Int.max_le.mp a.1).1, (Int.max_le.mp a.1).2, a.2⟩
theorem wl98 {s p a b : Nat} (h : s - p = a + (b + 1) + 1) (hs : s ≤ 100) : a ≤ 98 := by omega
theorem hlA {n i e : Nat} (hn : n ≤ 18) (h : e ≤ min i n) : n - (i + 1) + e ≤ 100 := by omega
theorem sub_dec {n i : Nat} (h : i < n) : n + 1 - (i + 1) < n + 1 - i := by omega
theorem sub_one {n i j : Nat} (h : n - i = j + 1) : n - (i + 1) = j := by omega
theorem sub_suc {n i : Nat} (h : i < n) : n - i = n - i - 1 + 1 := by omega
theorem bits_int {k : Int} (h0 : 0 ≤ k) (h1 : k ≤ 1000) : Builtin.Int.intBits k ≤ 64 := intBits_le_64 (Int.lt_of_lt_of_le (by decide) h0) (Int.lt_of_le_of_lt h1 (by decide))
theorem bits_nat {n : Nat} (h : n ≤ 1000) : Builtin.Int.intBits (n : Int) ≤ 64 := bits_int (Int.natCast_nonneg n) (Int.ofNat_le.mpr h)
theorem nabs {b : Nat} (h : b ≤ 1000) : ((b : Int)).natAbs < 2 ^ 64 := by omega
theorem nabs1 {b : Nat} (h : b ≤ 1000) : ((b : Int) + 1).natAbs < 2 ^ 64 := by omega
theorem nin_map {a : Addr} {l : List (Addr × Obj)} (h : ∀ q ∈ l, q.1 ≠ a) : a ∉ l.map (·.1) := fun hx => Exists.elim (List.mem_map.mp hx) fun q hq => h q hq.1 hq.2
theorem smallZ {P : Int → Prop} (n : Nat) {x : Int} (h0 : 0 ≤ x) (h1 : x < (n : Int)) (h : ∀ i : Fin n, P ((i.1 : Nat) : Int)) : P x := by
  obtain ⟨m, rfl⟩ := Int.eq_ofNat_of_zero_le h0
  exact h ⟨m, Int.ofNat_lt.mp h1⟩
theorem mx1 {a b : Int} (h : b > a) : max a b = b := Int.max_eq_right (Int.le_of_lt h)
theorem mx0 {a b : Int} (h : ¬ b > a) : max a b = a := Int.max_eq_left (Int.not_lt.mp h)
theorem mn1 {a b : Int} (h : b < a) : min a b = b := Int.min_eq_right (Int.le_of_lt h)
theorem mn0 {a b : Int} (h : ¬ b < a) : min a b = a := Int.min_eq_left (Int.not_lt.mp h)
theorem room {d a b c R : Nat} (h : d + a < R) (e : b + c ≤ a) : d + b + c < R := by omega
noncomputable def Lts (d : Addr) : List (Addr × Obj) → Prop
  | [] => True
  | [p] => @LT.lt Nat _ p.1 d
  | p :: q :: r => @LT.lt Nat _ p.1 d ∧ Lts d (q :: r)
theorem lts_of {d : Addr} : ∀ {l : List (Addr × Obj)}, (∀ p ∈ l, @LT.lt Nat _ p.1 d) → Lts d l
  | [], _ => trivial
  | [p], h => h p (.head _)
  | p :: q :: r, h => ⟨h p (.head _), lts_of (l := q :: r) fun x hx => h x (.tail _ hx)⟩
abbrev Chg (T G : Prop) := (T → G) → T → G
@[elab_as_elim] theorem gen_ {α : Type} {P : α → Prop} (a : α) (h : ∀ x, P x) : P a := h a
@[elab_as_elim] theorem genE_ {α : Type} {P : α → Prop} (a : α) (h : ∀ x, a = x → P x) : P a := h a rfl
theorem ggoal {P : Prop} (h : ∀ G : Prop, (P → G) → G) : P := h P id
noncomputable abbrev Led := List (Addr × Obj)
theorem sub_ends {a b c q : Addr × Obj} {X TL : Led} (h : q ∈ ([a, b, c] ++ TL : Led)) : q ∈ a :: b :: c :: (X ++ TL) :=
  fapp (P := fun q => q ∈ a :: b :: c :: (X ++ TL)) (fcons (.head _) (fcons (.tail _ (.head _)) (fcons (.tail _ (.tail _ (.head _))) fnil))) (fun q hq => .tail _ (.tail _ (.tail _ (List.mem_append_right _ hq)))) q h
noncomputable def LeaveM (h₀ : Heap) (L : Addr) (m : Str → Option Value) (g : Heap) (rest : Led) (R : Result → Shared → Prop) (v : Value) (s' : Shared) : Prop :=
  ∃ L' m' M', Fr g L' s'.heap m' ∧ News g L' s'.heap M' ∧ (Fr h₀ L s'.heap m → News h₀ L s'.heap (M' ++ rest) → R (.ok (.ret v)) s')
theorem leaveM_ {h₀ g : Heap} {L L' : Addr} {m m' : Str → Option Value} {M' rest : Led} {R : Result → Shared → Prop} {v : Value} {s' : Shared} (F' : Fr g L' s'.heap m') (N' : News g L' s'.heap M')
    (k : Fr h₀ L s'.heap m → News h₀ L s'.heap (M' ++ rest) → R (.ok (.ret v)) s') : LeaveM h₀ L m g rest R v s' := ⟨L', m', M', F', N', k⟩

section
variable {prog : Program} {w : World} {A₀ A : Around} {s : Shared} {base h₀ : Heap} {outer : List Env} {L : Addr} {m : Str → Option Value} {env : Env} {M rest : Led}
  {R : Result → Shared → Prop} {name qual : Str} {params : Arguments} {body : List Stmt} {scope : Scope} {cl : List (Str × Addr)} {dV kV doc pm cdv ct : Value} {an : Option Addr} {fo : Obj} {f : Addr} {args : Args} {binds : List (Str × Value)}

theorem ground_M (B : Below A₀ base outer h₀) (F : Fr h₀ L s.heap m) (N : News h₀ L s.heap (M ++ rest)) (hA : A.frames = some (env :: outer)) (hf : env.frame = some L) (hke : env.scope.kind = .function)
    (hap : ∀ p ∈ rest, p.1 ∉ M.map (·.1)) :
    Fr h₀ L (hideAll s.heap (M.map (·.1))) m ∧ Below A base (env :: outer) (hideAll s.heap (M.map (·.1))) ∧ h₀.StaysIn (hideAll s.heap (M.map (·.1))) ∧ (∀ p ∈ rest, (hideAll s.heap (M.map (·.1))).get? p.1 = some p.2) ∧
      ∀ v s', LeaveM h₀ L m (hideAll s.heap (M.map (·.1))) rest R v s' → R (.ok (.ret v)) s' := by
  have NM : News h₀ L s.heap M := fun p hp => N p (List.mem_append_left _ hp)
  obtain ⟨f1, f2, f3, _⟩ := groundX (R := R) B F NM hA hf hke
  have fr : ∀ p ∈ rest, (hideAll s.heap (M.map (·.1))).get? p.1 = some p.2 := fun p hp => hideAll_get _ (N p (List.mem_append_right _ hp)).1 (hap p hp)
  refine ⟨f1, f2, f3, fr, fun v s' hl => ?_⟩
  obtain ⟨L', m', M', F', N', k⟩ := hl
  obtain ⟨oL, es, ep, hL, hLd, hLk, hLf⟩ := f1.ns
  refine k ⟨⟨oL, es, ep, F'.keep L oL hL, hLd, hLk, hLf⟩, fun b o e => F'.keep b o (f3 b o e), F.above⟩ fun p hp => ?_
  rcases List.mem_append.mp hp with hp | hp
  · refine ⟨(N' p hp).1, fun q => ?_, ?_⟩
    · have := (N' p hp).2.2; rw [q, hL] at this; cases this
    · cases q : h₀.get? p.1 with
      | none => rfl
      | some o => have := (N' p hp).2.2; rw [f3 _ _ q] at this; cases this
  · have z := N p (List.mem_append_right _ hp)
    exact ⟨F'.keep _ _ (fr p hp), z.2.1, z.2.2⟩

theorem enterM (B : Below A₀ base outer h₀) (F : Fr h₀ L s.heap m) (N : News h₀ L s.heap (M ++ rest)) (hap : ∀ p ∈ rest, p.1 ∉ M.map (·.1)) (hlim : h₀.NoLimit) (hA : A.frames = some (env :: outer)) (hf : env.frame = some L) (hke : env.scope.kind = .function)
    (ho : s.heap.get? f = some fo) (hd : fo.data = .func (fnX name qual params body scope cl dV kV doc pm an cdv ct)) (hcd : s.heap.CodeRec cdv qual) (hroom : A.depth < recursionLimit)
    (hbind : BindsTo s (fnX name qual params body scope cl dV kV doc pm an cdv ct) args binds) (hloc : ∀ y ∈ binds, scope.names.lookup y.1 = some .local)
    (h : ∀ g L' h₁, Fr h₀ L g m → Fr g L' h₁ (fun y => binds.reverse.lookup y) → News g L' h₁ M → Below A base (env :: outer) g → h₀.StaysIn g → (∀ p ∈ rest, g.get? p.1 = some p.2) → (∀ p ∈ M, p.1 < L') →
      wpAny (model prog w) (A.deeper (envX qual scope L' f cdv cl)) (execs body (envX qual scope L' f cdv cl))
        (fun fl s' => LeaveM h₀ L m g rest R (match fl with | .ret v => v | _ => .none) s')
        (fun e s' => wpAny (model prog w) (A.deeper (envX qual scope L' f cdv cl)) («leaving» (envX qual scope L' f cdv cl) e) (fun _ s'' => R (.error e) s'') (fun e' s'' => R (.error e') s'') s')
        { s with heap := h₁, toks := s.toks + binds.length })
    (hcell : ∀ x ∈ scope.names, x.2 ≠ .cell) (hco : scope.isCoroutine = false) (hgen : scope.isGenerator = false) (hk : scope.kind = .function) : codeAny (model prog w) A (.call (.ref f) args) R s := by
  have NM : News h₀ L s.heap M := fun p hp => N p (List.mem_append_left _ hp)
  obtain ⟨FG, BG, st, fr, lv⟩ := ground_M (R := R) B F N hA hf hke hap
  refine codeAny_call_def (fd := fnX name qual params body scope cl dV kV doc pm an cdv ct) (body := body) (binds := binds) hroom ho hd (hlim.keeps F.keep) hcd rfl hbind hcell hloc (fun h₁ hns hk₁ => ?_) hco hgen hk
  exact wpAny_mono (h _ s.heap.objs.size h₁ FG ⟨hns, fun b o e => hk₁ b o (of_hideAll _ e), Nat.le_of_eq (hideAll_size _ _)⟩
    (fun p hp => ⟨hk₁ _ _ (NM p hp).1, Nat.ne_of_lt (Heap.lt_size (NM p hp).1), hideAll_none _ (List.mem_map_of_mem hp)⟩) BG st fr (fun p hp => Heap.lt_size (NM p hp).1)) (fun fl s' hl => lv _ _ hl) fun _ _ y => y

theorem enterC (B : Below A₀ base outer h₀) (F : Fr h₀ L s.heap m) (N : News h₀ L s.heap (M ++ rest)) (hap : ∀ p ∈ rest, p.1 ∉ M.map (·.1)) (hlim : h₀.NoLimit) (hA : A.frames = some (env :: outer)) (hf : env.frame = some L) (hke : env.scope.kind = .function)
    (ho : s.heap.get? f = some fo) (hd : fo.data = .func (fnX name qual params body scope [] dV kV doc pm an cdv ct)) (hcd : s.heap.CodeRec cdv qual) (hroom : A.depth < recursionLimit)
    (hbind : BindsTo s (fnX name qual params body scope [] dV kV doc pm an cdv ct) args binds)
    (hkind : ∀ n, ∀ x ∈ binds, scope.names.lookup x.1 = some .local ∨ (scope.names.lookup x.1 = some .cell ∧ ((cellsFrom n scope.names []).lookup x.1).isSome = true))
    (hnd : ((cellsFrom 0 scope.names []).map (·.1)).Nodup)
    (h : ∀ g L' h₁ tk cells, Fr h₀ L g m → Fr g L' h₁ (bindL (envOfC qual scope L' f cdv).kindOf binds fun _ => none) → News g L' h₁ (cells ++ M) →
      CellsAre (bindC (envOfC qual scope L' f cdv).kindOf binds fun _ => none) (cellsFrom (L' + 1) scope.names []) cells → Below A base (env :: outer) g → h₀.StaysIn g → (∀ p ∈ rest, g.get? p.1 = some p.2) → (∀ p ∈ M, p.1 < L') →
      wpAny (model prog w) (A.deeper (envOfC qual scope L' f cdv)) (execs body (envOfC qual scope L' f cdv))
        (fun fl s' => LeaveM h₀ L m g rest R (match fl with | .ret v => v | _ => .none) s')
        (fun e s' => wpAny (model prog w) (A.deeper (envOfC qual scope L' f cdv)) («leaving» (envOfC qual scope L' f cdv) e) (fun _ s'' => R (.error e) s'') (fun e' s'' => R (.error e') s'') s')
        { s with heap := h₁, toks := tk })
    (hco : scope.isCoroutine = false) (hgen : scope.isGenerator = false) (hk : scope.kind = .function) : codeAny (model prog w) A (.call (.ref f) args) R s := by
  have NM : News h₀ L s.heap M := fun p hp => N p (List.mem_append_left _ hp)
  obtain ⟨FG, BG, st, fr, lv⟩ := ground_M (R := R) B F N hA hf hke hap
  refine codeAny_call_function hroom ho hd hco hgen rfl hcd (hbind _ _ _ _ ?_)
  refine wpAny_newFunctionEnv_cells hk (hkind _) fun env' he s' x => ?_
  subst he
  refine ⟨(hlim.keeps F.keep).keeps x.toInCall.keep, codeAny_func ?_⟩
  obtain ⟨h₁, tk, rfl, _⟩ := x.done
  have hk₁ := x.toInCall.keep
  obtain ⟨cells, NC, Y⟩ := Cl.news (h₀ := s.heap) (Nat.le_refl _) fun n c hm => ⟨x.cell n c (lookup_of_mem_nodup (cellsFrom_names scope.names 0 (s.heap.objs.size + 1) [] [] rfl ▸ hnd) hm), x.above n c hm⟩
  refine wpAny_mono (h _ s.heap.objs.size h₁ tk cells FG ⟨x.toInCall.ns, fun b o e => hk₁ b o (of_hideAll _ e), Nat.le_of_eq (hideAll_size _ _)⟩ (fun p hp => ?_) Y BG st fr (fun p hp => Heap.lt_size (NM p hp).1)) (fun fl s' hl => lv _ _ hl) fun _ _ y => y
  rcases List.mem_append.mp hp with hp | hp
  · refine ⟨(NC p hp).1, (NC p hp).2.1, ?_⟩
    cases q : (hideAll s.heap (M.map (·.1))).get? p.1 with
    | none => rfl
    | some o => have := of_hideAll _ q; rw [(NC p hp).2.2] at this; cases this
  · exact ⟨hk₁ _ _ (NM p hp).1, Nat.ne_of_lt (Heap.lt_size (NM p hp).1), hideAll_none _ (List.mem_map_of_mem hp)⟩
end
end Mine
namespace Mine
structure Ctx (K : Frag) (p : Program) (loose : List Str) (mean : ExcName → Option Value) (mg mb : Str → Option Value) (A₀ : Around) (base h₀ : Heap) (outer : List Env) (cs : Scope) (L : Addr) (m : Str → Option Value) (s : Shared) (dp d un u : Nat) : Prop where
  B : Below A₀ base outer h₀
  F : Fr h₀ L s.heap m
  X : K.In h₀
  T : Top p loose mean mg mb h₀
  hke : cs.kind = .function
  hd : dp + d < recursionLimit
  hu : un + u < cLine
end Mine
namespace Mine
section
variable {prog : Program} {w : World} {A₀ : Around} {s : Shared} {base h₀ : Heap} {outer : List Env} {L : Addr} {m : Str → Option Value} {M rest : Led} {K : Frag} {p : Program} {loose : List Str} {mean : ExcName → Option Value} {mg mb : Str → Option Value}
  {dp d un u : Nat} {gd : Option (List Code)} {cn : Str} {cs : Scope} {a : Addr} {ccd : Value} {cl : List (Str × Addr)}
  {R : Result → Shared → Prop} {name qual : Str} {params : Arguments} {body : List Stmt} {scope : Scope} {dV kV doc pm cdv ct oc : Value} {an od : Option Addr} {osl : Array (Option Value)} {f : Addr} {args : Args} {binds : List (Str × Value)}
theorem enterK (C : Ctx K p loose mean mg mb A₀ base h₀ outer cs L m s dp d un u) (N : News h₀ L s.heap (M ++ rest)) (hap : ∀ p ∈ rest, p.1 ∉ M.map (·.1))
    (ho : K.lookup f = some ⟨oc, od, .func (fnOf name qual params body scope dV kV doc pm an cdv ct), osl⟩) (hcd : codeIn K cdv qual = true)
    (hbind : BindsTo s (fnOf name qual params body scope dV kV doc pm an cdv ct) args binds) (hloc : ∀ y ∈ binds, scope.names.lookup y.1 = some .local)
    (h : ∀ g L' h₁ tk, Fr h₀ L g m → Fr g L' h₁ (fun y => binds.reverse.lookup y) → News g L' h₁ M → Below (ktrTop dp un gd cn cs L a ccd cl outer) base (envX cn cs L a ccd cl :: outer) g → h₀.StaysIn g → K.In g → Top p loose mean mg mb g → (∀ p ∈ rest, g.get? p.1 = some p.2) → (∀ p ∈ M, p.1 < L') →
      let vk : Env := envOf qual scope L' f cdv; let ak : Around := (ktrTop dp un gd cn cs L a ccd cl outer).deeper vk
      wpAny (model prog w) ak (execs body vk)
        (fun fl s' => LeaveM h₀ L m g rest R (match fl with | .ret v => v | _ => .none) s')
        (fun e s' => wpAny (model prog w) ak («leaving» vk e) (fun _ s'' => R (.error e) s'') (fun e' s'' => R (.error e') s'') s')
        { s with heap := h₁, toks := tk })
    (hcell : ∀ x ∈ scope.names, x.2 ≠ .cell) (hco : scope.isCoroutine = false) (hgen : scope.isGenerator = false) (hk : scope.kind = .function) : codeAny (model prog w) (ktrTop dp un gd cn cs L a ccd cl outer) (.call (.ref f) args) R s :=
  enterM (cl := []) C.B C.F N hap C.T.nolimit rfl rfl C.hke ((C.X.keeps C.F.keep) _ _ ho) rfl (codeRec_of (C.X.keeps C.F.keep) hcd) (by have := C.hd; show dp < recursionLimit; lia) hbind hloc
    (fun g L' h₁ FG F' N' B' st fr l1 => h g L' h₁ _ FG F' N' B' st (C.X.keeps st) (C.T.keeps st) fr l1) hcell hco hgen hk
theorem enterKC (C : Ctx K p loose mean mg mb A₀ base h₀ outer cs L m s dp d un u) (N : News h₀ L s.heap (M ++ rest)) (hap : ∀ p ∈ rest, p.1 ∉ M.map (·.1))
    (ho : K.lookup f = some ⟨oc, od, .func (fnOf name qual params body scope dV kV doc pm an cdv ct), osl⟩) (hcd : codeIn K cdv qual = true)
    (hbind : BindsTo s (fnOf name qual params body scope dV kV doc pm an cdv ct) args binds) (hkind : (binds.all fun y => scope.names.lookup y.1 == some .local || scope.names.lookup y.1 == some .cell) = true)
    (hnd : ((cellsFrom 0 scope.names []).map (·.1)).Nodup)
    (h : ∀ g L' h₁ tk cells, Fr h₀ L g m → Fr g L' h₁ (bindL (envOfC qual scope L' f cdv).kindOf binds fun _ => none) → News g L' h₁ (cells ++ M) →
      CellsAre (bindC (envOfC qual scope L' f cdv).kindOf binds fun _ => none) (cellsFrom (L' + 1) scope.names []) cells → Below (ktrTop dp un gd cn cs L a ccd cl outer) base (envX cn cs L a ccd cl :: outer) g → h₀.StaysIn g → K.In g → Top p loose mean mg mb g → (∀ p ∈ rest, g.get? p.1 = some p.2) → (∀ p ∈ M, p.1 < L') →
      let vk : Env := envOfC qual scope L' f cdv; let ak : Around := (ktrTop dp un gd cn cs L a ccd cl outer).deeper vk
      wpAny (model prog w) ak (execs body vk)
        (fun fl s' => LeaveM h₀ L m g rest R (match fl with | .ret v => v | _ => .none) s')
        (fun e s' => wpAny (model prog w) ak («leaving» vk e) (fun _ s'' => R (.error e) s'') (fun e' s'' => R (.error e') s'') s')
        { s with heap := h₁, toks := tk })
    (hco : scope.isCoroutine = false) (hgen : scope.isGenerator = false) (hk : scope.kind = .function) : codeAny (model prog w) (ktrTop dp un gd cn cs L a ccd cl outer) (.call (.ref f) args) R s :=
  enterC C.B C.F N hap C.T.nolimit rfl rfl C.hke ((C.X.keeps C.F.keep) _ _ ho) rfl (codeRec_of (C.X.keeps C.F.keep) hcd) (by have := C.hd; show dp < recursionLimit; lia) hbind (kindsX hkind) hnd
    (fun g L' h₁ tk cells FG F' N' Y B' st fr l1 => h g L' h₁ tk cells FG F' N' Y B' st (C.X.keeps st) (C.T.keeps st) fr l1) hco hgen hk
end
end Mine
namespace Mine
section
variable {M : Model} {A : Around} {E : Value → Shared → Prop} {s : Shared} {env : Env} {st : Stmt} {rest : List Stmt} {Q : Flow → Shared → Prop} {g : Heap} {L : Addr}
noncomputable def Post (g : Heap) (L : Addr) (s : Shared) (Φ : (Str → Option Value) → Led → Prop) (fl : Flow) (s' : Shared) : Prop :=
  fl = .next ∧ ∃ h' tk' m' n', s' = { s with heap := h', toks := tk' } ∧ Fr g L h' m' ∧ News g L h' n' ∧ Φ m' n'
theorem cutS {hp : Heap} {tk : Nat} (g : Heap) (L : Addr) (Φ : (Str → Option Value) → Led → Prop) (h1 : wpAny M A (exec st env) (Post g L s Φ) E { s with heap := hp, toks := tk })
    (h2 : ∀ h' tk' m' n', Fr g L h' m' → News g L h' n' → Φ m' n' → wpAny M A (execs rest env) Q E { s with heap := h', toks := tk' }) : wpAny M A (execs (st :: rest) env) Q E { s with heap := hp, toks := tk } := by
  show wpAny M A (exec st env >>= fun f => match f with | .next => execs rest env | f => pure f) Q E _
  refine wpAny_bind (wpAny_mono h1 (fun fl s' hP => ?_) fun _ _ x => x)
  obtain ⟨rfl, h', tk', m', n', rfl, F, N, hΦ⟩ := hP
  exact h2 h' tk' m' n' F N hΦ
theorem cutQ {tm : Sem Flow} {hp : Heap} {tk : Nat} (g : Heap) (L : Addr) (Φ : (Str → Option Value) → Led → Prop) (h1 : wpAny M A tm (Post g L s Φ) E { s with heap := hp, toks := tk })
    (h2 : ∀ h' tk' m' n', Fr g L h' m' → News g L h' n' → Φ m' n' → Q .next { s with heap := h', toks := tk' }) : wpAny M A tm Q E { s with heap := hp, toks := tk } := by
  refine wpAny_mono h1 (fun fl s' hP => ?_) fun _ _ x => x
  obtain ⟨rfl, h', tk', m', n', rfl, F, N, hΦ⟩ := hP
  exact h2 h' tk' m' n' F N hΦ
theorem post_ {Φ : (Str → Option Value) → Led → Prop} {h' : Heap} {tk' : Nat} {m' : Str → Option Value} {n' : Led} (F : Fr g L h' m') (N : News g L h' n') (h : Φ m' n') : Post g L s Φ .next { s with heap := h', toks := tk' } :=
  ⟨rfl, h', tk', m', n', rfl, F, N, h⟩
end
end Mine

namespace Mine
theorem fr_congr {g h : Heap} {L : Addr} {m m' : Str → Option Value} (F : Fr g L h m) (e : ∀ y, m y = m' y) : Fr g L h m' := (funext e : m = m') ▸ F
theorem look1 {l : List (Str × Value)} {x : Str} {v : Value} (y : Str) {r : Option Value} (e : l.lookup y = r) : ((x, v) :: l).lookup y = if y = x then some v else r := by
  rw [List.lookup_cons]
  by_cases h : y = x
  · subst h; simp
  · rw [if_neg h, beq_eq_false_iff_ne.mpr h]; exact e
end Mine
namespace Mine
noncomputable abbrev prg : Program := PySem.Challenge.pw_to0079_01
theorem in_set_old {w : World} {A : Around} {E : Value → Shared → Prop} {s : Shared} {h₀ : Heap} {L : Addr} {m : Str → Option Value} {a : Addr} {S : Int → Bool} {n : Nat} {i : Int} {t : Tok} {Q : Value → Shared → Prop} (F : Fr h₀ L s.heap m)
    (hs : h₀.SetOf (intKind prg w) a S n) (h : Q (.bool (S i)) { s with toks := s.toks + 1 }) : wpAny (model prg w) A (compareOp .In (.int i t) (.ref a)) Q E s := by
  obtain ⟨o, es, ep, tb, ho, r⟩ := hs
  exact wpAny_inSet_of (intKind_is _ _ _ _) rfl ⟨o, es, ep, tb, F.keep _ _ ho, r⟩ h
end Mine
namespace Mine
theorem setOf_keeps {w : World} {h h' : Heap} {a : Addr} {S : Int → Bool} {n : Nat} (hs : h.SetOf (intKind prg w) a S n) (st : h.StaysIn h') : h'.SetOf (intKind prg w) a S n := by
  obtain ⟨o, es, ep, tb, ho, r⟩ := hs
  exact ⟨o, es, ep, tb, st _ _ ho, r⟩
end Mine

end
local macro_rules | `(tactic| walk_at "red") => `(tactic| (with_reducible refine' @((?zf : Mine.Chg _ _) (by intro h; dsimp -failIfUnchanged only; exact @h) ?_); (case zf => exact fun _ h => @h)))
local macro_rules | `(tactic| walk_at "open") => `(tactic| refine (let G : Prop := _; (?_ : G)))
local macro_rules | `(tactic| walk_at "shut") => `(tactic| (rename Prop => G; with_reducible refine' @((?zf : Mine.Chg _ _) (by intro h; unfold G; exact @h) ?_); (case zf => exact fun _ h => @h); clear G))
section
open PySem PySem.W PySem.W.X PyProof.Rows PySem.Calls
namespace Mine
theorem news_nil {h₀ h : Heap} {L : Addr} : News h₀ L h [] := fun _ hp => nomatch hp
noncomputable def nth : Led → Nat → Option (Addr × Obj)
  | [], _ => none
  | x :: _, 0 => some x
  | _ :: r, n + 1 => nth r n
noncomputable def dropL : Nat → Led → Led
  | 0, l => l
  | _ + 1, [] => []
  | n + 1, _ :: r => dropL n r
theorem dropL_mem {a : Addr × Obj} : ∀ {i : Nat} {n : Led}, a ∈ dropL i n → a ∈ n
  | 0, _, h => h
  | _ + 1, [], h => h
  | i + 1, _ :: r, h => .tail _ (dropL_mem (n := r) (i := i) h)
theorem news_d {h₀ h : Heap} {L : Addr} {n : Led} (i : Nat) (N : News h₀ L h n) : News h₀ L h (dropL i n) := fun p hp => N p (dropL_mem hp)
noncomputable def jn : List Led → Led
  | [] => []
  | [x] => x
  | x :: y :: r => x ++ jn (y :: r)
theorem mem_jn {p : Addr × Obj} : ∀ {bs : List Led}, p ∈ jn bs ↔ ∃ b ∈ bs, p ∈ b
  | [] => ⟨fun h => (List.not_mem_nil h).elim, fun ⟨_, h, _⟩ => (List.not_mem_nil h).elim⟩
  | [x] => ⟨fun h => ⟨x, .head _, h⟩, fun ⟨b, h, hp⟩ => by rcases List.mem_cons.mp h with rfl | h; exact hp; exact (List.not_mem_nil h).elim⟩
  | x :: y :: r => by
    refine ⟨fun h => ?_, fun ⟨b, hb, hp⟩ => ?_⟩
    · rcases List.mem_append.mp h with h | h
      · exact ⟨x, .head _, h⟩
      · obtain ⟨b, hb, hp⟩ := (mem_jn (bs := y :: r)).mp h
        exact ⟨b, .tail _ hb, hp⟩
    · rcases List.mem_cons.mp hb with rfl | hb
      · exact List.mem_append_left _ hp
      · exact List.mem_append_right _ ((mem_jn (bs := y :: r)).mpr ⟨b, hb, hp⟩)
noncomputable def bget : List Led → Nat → Led
  | [], _ => []
  | x :: _, 0 => x
  | _ :: r, n + 1 => bget r n
theorem bget_mem {p : Addr × Obj} : ∀ {bs : List Led} {i : Nat}, p ∈ bget bs i → p ∈ jn bs
  | [], _, h => (List.not_mem_nil h).elim
  | x :: r, 0, h => mem_jn.mpr ⟨x, .head _, h⟩
  | x :: r, i + 1, h => by
    obtain ⟨b, hb, hp⟩ := mem_jn.mp (bget_mem (bs := r) (i := i) h)
    exact mem_jn.mpr ⟨b, .tail _ hb, hp⟩
noncomputable def bsel (bs : List Led) : List Nat → List Led
  | [] => []
  | i :: r => bget bs i :: bsel bs r
theorem bsel_mem {p : Addr × Obj} {bs : List Led} : ∀ {is : List Nat} {b : Led}, b ∈ bsel bs is → p ∈ b → p ∈ jn bs
  | [], _, h, _ => (List.not_mem_nil h).elim
  | i :: r, b, h, hp => by
    rcases List.mem_cons.mp h with rfl | h
    · exact bget_mem hp
    · exact bsel_mem h hp
theorem news_blk {h₀ h : Heap} {L : Addr} (bs : List Led) (is : List Nat) (N : News h₀ L h (jn bs)) : News h₀ L h (jn (bsel bs is)) := fun p hp => by
  obtain ⟨b, hb, hp⟩ := mem_jn.mp hp
  exact N p (bsel_mem hb hp)
theorem sub_blk (bs : List Led) (is : List Nat) : ∀ p ∈ jn (bsel bs is), p ∈ jn bs := fun p hp => by
  obtain ⟨b, hb, hp⟩ := mem_jn.mp hp
  exact bsel_mem hb hp
theorem news_sa {h₀ h : Heap} {L : Addr} (hd A B C : Led) (N : News h₀ L h (hd ++ ((A ++ B) ++ C))) : News h₀ L h (hd ++ (A ++ (B ++ C))) := by rw [← List.append_assoc A]; exact N
theorem news_as {h₀ h : Heap} {L : Addr} (A B C : Led) (N : News h₀ L h (A ++ (B ++ C))) : News h₀ L h ((A ++ B) ++ C) := by rw [List.append_assoc]; exact N
theorem news_more {h₀ h : Heap} {L : Addr} {base nw : Led} (hd : Led) (H : ∀ p ∈ base, p ∈ nw) (N : News h₀ L h (hd ++ nw)) : News h₀ L h (hd ++ base) := fun p hp =>
  N p ((List.mem_append.mp hp).elim (List.mem_append_left _) fun hp => List.mem_append_right _ (H p hp))
end Mine

end
section
open PySem PySem.W PySem.W.X PyProof.Rows PySem.Calls PySem.Spec PyProof.V
namespace Mine
theorem fr_old {h₀ h h' : Heap} {L : Addr} {m : Str → Option Value} (F : Fr h₀ L h m) (k : ∀ b o, h.get? b = some o → h'.get? b = some o) : Fr h₀ L h' m := by
  walk_at "open"
  obtain ⟨⟨oL, es, ep, hL, r⟩, kp, ab⟩ := F
  walk_at "shut"
  exact ⟨⟨oL, es, ep, k _ _ hL, r⟩, fun b o e => k _ _ (kp b o e), ab⟩
theorem news_old {h₀ h h' : Heap} {L : Addr} {n : Led} (N : News h₀ L h n) (k : ∀ b o, h.get? b = some o → h'.get? b = some o) : News h₀ L h' n :=
  fun p hp => ⟨k _ _ (N p hp).1, (N p hp).2⟩
theorem max3 {w : World} {dp un : Nat} {gd : Option (List Code)} {cn : Str} {cs : Scope} {L a : Addr} {ccd : Value} {cl : List (Str × Addr)} {outer : List Env} {s : Shared} {Q E : Value → Shared → Prop}
   {r g b : Int} {tr tg tb : Nat} 
   (k : ∀ t h' tk', (∀ b o, s.heap.get? b = some o → h'.get? b = some o) → Q (.int (max (max r g) b) t) {s with heap := h', toks := tk'}) :
   wpAny (model PySem.Challenge.pw_to0079_01 w) (ktrTop dp un gd cn cs L a ccd cl outer) (call (.builtin "max") [.int r tr, .int g tg, .int b tb]) Q E s := by
  refine max_three_ints (by with_unfolding_all rfl) fun h' tk' hk => ?_
  have key : ∀ z u, z = max (max r g) b → Q (.int z u) {s with heap := h', toks := tk'} := fun z u e => by rw [e]; exact k u h' tk' hk
  split <;> split <;> (rename_i h1 h2; exact key _ _ (by first | rw [mx1 h1, mx1 h2] | rw [mx1 h1, mx0 h2] | rw [mx0 h1, mx1 h2] | rw [mx0 h1, mx0 h2]))
theorem min3 {w : World} {dp un : Nat} {gd : Option (List Code)} {cn : Str} {cs : Scope} {L a : Addr} {ccd : Value} {cl : List (Str × Addr)} {outer : List Env} {s : Shared} {Q E : Value → Shared → Prop}
   {r g b : Int} {tr tg tb : Nat} 
   (k : ∀ t h' tk', (∀ b o, s.heap.get? b = some o → h'.get? b = some o) → Q (.int (min (min r g) b) t) {s with heap := h', toks := tk'}) :
   wpAny (model PySem.Challenge.pw_to0079_01 w) (ktrTop dp un gd cn cs L a ccd cl outer) (call (.builtin "min") [.int r tr, .int g tg, .int b tb]) Q E s := by
  refine min_three_ints (by with_unfolding_all rfl) fun h' tk' hk => ?_
  have key : ∀ z u, z = min (min r g) b → Q (.int z u) {s with heap := h', toks := tk'} := fun z u e => by rw [e]; exact k u h' tk' hk
  split <;> split <;> (rename_i h1 h2; exact key _ _ (by first | rw [mn1 h1, mn1 h2] | rw [mn1 h1, mn0 h2] | rw [mn0 h1, mn1 h2] | rw [mn0 h1, mn0 h2]))
end Mine
namespace Mine
theorem max3' {w : World} {dp un : Nat} {gd : Option (List Code)} {cn : Str} {cs : Scope} {L a : Addr} {ccd : Value} {cl : List (Str × Addr)} {outer : List Env} {s : Shared} {Q E : Value → Shared → Prop} {h₀ : Heap} {L' : Addr} {m : Str → Option Value} {n : Led}
   {r g b : Int} {tr tg tb : Nat} (F : Fr h₀ L' s.heap m) (N : News h₀ L' s.heap n)
   (k : ∀ t h' tk', Fr h₀ L' h' m → News h₀ L' h' n → Q (.int (max (max r g) b) t) {s with heap := h', toks := tk'}) :
   wpAny (model PySem.Challenge.pw_to0079_01 w) (ktrTop dp un gd cn cs L a ccd cl outer) (call (.builtin "max") [.int r tr, .int g tg, .int b tb]) Q E s :=
  max3 fun t h' tk' kp => k t h' tk' (fr_old F kp) (news_old N kp)
theorem min3' {w : World} {dp un : Nat} {gd : Option (List Code)} {cn : Str} {cs : Scope} {L a : Addr} {ccd : Value} {cl : List (Str × Addr)} {outer : List Env} {s : Shared} {Q E : Value → Shared → Prop} {h₀ : Heap} {L' : Addr} {m : Str → Option Value} {n : Led}
   {r g b : Int} {tr tg tb : Nat} (F : Fr h₀ L' s.heap m) (N : News h₀ L' s.heap n)
   (k : ∀ t h' tk', Fr h₀ L' h' m → News h₀ L' h' n → Q (.int (min (min r g) b) t) {s with heap := h', toks := tk'}) :
   wpAny (model PySem.Challenge.pw_to0079_01 w) (ktrTop dp un gd cn cs L a ccd cl outer) (call (.builtin "min") [.int r tr, .int g tg, .int b tb]) Q E s :=
  min3 fun t h' tk' kp => k t h' tk' (fr_old F kp) (news_old N kp)
end Mine
namespace Mine
theorem news_sub {h₀ h : Heap} {L : Addr} {n n' : Led} (N : News h₀ L h n) (hs : ∀ p ∈ n', p ∈ n) : News h₀ L h n' := fun p hp => N p (hs p hp)
theorem dict_get {w : World} {A : Around} {E : Value → Shared → Prop} {s : Shared} {h₀ : Heap} {L : Addr} {m : Str → Option Value} {d : Addr} {D : List (PyData × PyData)} {i : Int} {t : Tok} {Q : Value → Shared → Prop} (F : Fr h₀ L s.heap m)
    (T : IntTab prg w h₀ d D) (h : ∀ v, Flat v ((lookup (.int i) D).getD .none) → Q v { s with toks := s.toks + 1 }) : wpAny (model prg w) A (call (.builtin "dict.get") [.ref d, .int i t]) Q E s :=
  call_get1_intTab (TabAt.keep T F.keep) h
theorem dict_meth {w : World} {A : Around} {E : Value → Shared → Prop} {s : Shared} {h₀ : Heap} {L : Addr} {m : Str → Option Value} {d : Addr} {D : List (PyData × PyData)} {pl : Sem Bool} {Q : Value × List Value → Shared → Prop} (F : Fr h₀ L s.heap m)
    (T : IntTab prg w h₀ d D) (h : Q (.builtin "dict.get", [.ref d]) s) : wpAny (model prg w) A (getMethod (.ref d) "get" pl) Q E s :=
  getMethod_intTab_get (TabAt.keep T F.keep) h
end Mine
namespace Mine
theorem dict_get_some {w : World} {A : Around} {E : Value → Shared → Prop} {s : Shared} {h₀ : Heap} {L : Addr} {m : Str → Option Value} {d : Addr} {D : List (PyData × PyData)} {i : Int} {t : Tok} {Q : Value → Shared → Prop} {x : Str} (F : Fr h₀ L s.heap m)
    (T : IntTab prg w h₀ d D) (hl : lookup (.int i) D = some (.str x)) (h : ∀ t, Q (.str x t) { s with toks := s.toks + 1 }) : wpAny (model prg w) A (call (.builtin "dict.get") [.ref d, .int i t]) Q E s := by
  refine dict_get F T fun v hv => ?_
  rw [hl] at hv
  cases hv s.heap
  exact h _
theorem dict_get_none {w : World} {A : Around} {E : Value → Shared → Prop} {s : Shared} {h₀ : Heap} {L : Addr} {m : Str → Option Value} {d : Addr} {D : List (PyData × PyData)} {i : Int} {t : Tok} {Q : Value → Shared → Prop} (F : Fr h₀ L s.heap m)
    (T : IntTab prg w h₀ d D) (hl : lookup (.int i) D = none) (h : Q .none { s with toks := s.toks + 1 }) : wpAny (model prg w) A (call (.builtin "dict.get") [.ref d, .int i t]) Q E s := by
  refine dict_get F T fun v hv => ?_
  rw [hl] at hv
  cases hv s.heap
  exact h
end Mine
namespace Mine
theorem fr1 {g h : Heap} {L : Addr} {m : Str → Option Value} {a : Str} {v : Value} (F : Fr g L h m) (e : m a = some v) : Fr g L h (fun z => if z = a then some v else m z) := by
  refine fr_congr F fun z => ?_
  by_cases hz : z = a
  · rw [if_pos hz, hz]; exact e
  · rw [if_neg hz]
end Mine

end
section
open PySem PySem.W PySem.W.X PyProof.Rows PySem.Calls PySem.Spec PyProof.V
namespace Mine
inductive StepE (g : Heap) (L I : Addr) (oI : Obj) (Jn : (Str → Option Value) → Led → Prop) (s s' : Shared) : Prop
  | mk (h' : Heap) (tk' : Nat) (m' : Str → Option Value) (n' : Led) (e : s' = { s with heap := h', toks := tk' }) (F : Fr g L h' m') (N : News g L h' ((I, oI) :: n')) (hn : ∀ p ∈ n', p.1 ≠ I) (hJ : Jn m' n') : StepE g L I oI Jn s s'
noncomputable def StepP (g : Heap) (L I : Addr) (oI : Obj) (Jn : (Str → Option Value) → Led → Prop) (s : Shared) (Q : Flow → Shared → Prop) (fl : Flow) (s' : Shared) : Prop := match fl with
  | .ret v => Q (.ret v) s'
  | .brk => Q .next s'
  | _ => StepE g L I oI Jn s s'
theorem stepP_next {g h' : Heap} {L I : Addr} {oI : Obj} {Jn : (Str → Option Value) → Led → Prop} {s : Shared} {Q : Flow → Shared → Prop} {tk' : Nat} {m' : Str → Option Value} {n' : Led} (F : Fr g L h' m') (N : News g L h' ((I, oI) :: n')) (hn : ∀ p ∈ n', p.1 ≠ I) (hJ : Jn m' n') :
    StepP g L I oI Jn s Q .next { s with heap := h', toks := tk' } := ⟨h', tk', m', n', rfl, F, N, hn, hJ⟩
theorem stepP_cont {g h' : Heap} {L I : Addr} {oI : Obj} {Jn : (Str → Option Value) → Led → Prop} {s : Shared} {Q : Flow → Shared → Prop} {tk' : Nat} {m' : Str → Option Value} {n' : Led} (F : Fr g L h' m') (N : News g L h' ((I, oI) :: n')) (hn : ∀ p ∈ n', p.1 ≠ I) (hJ : Jn m' n') :
    StepP g L I oI Jn s Q .cont { s with heap := h', toks := tk' } := ⟨h', tk', m', n', rfl, F, N, hn, hJ⟩
section
variable {prog : Program} {w : World} {A : Around} {E : Value → Shared → Prop} {s : Shared} {env : Env} {g : Heap} {x : Str} {body : List Stmt} {Q : Flow → Shared → Prop} {m : Str → Option Value} {news : Led}

theorem loop_on {I : Addr} {ext : List Addr} {n : Nat} {P : Nat → Value → Prop} {St : Nat → Heap → Prop} (W : Walks prog w A I (I :: ext) [I] n P St)
    (hIg : g.get? I = none) (hIL : I ≠ env.locals) (hext : ∀ b ∈ ext, b ≠ env.locals) (hIo : ∀ i h, St i h → ∃ o, h.get? I = some o)
    (J : Nat → (Str → Option Value) → Led → Prop) (hk : ∀ b ∈ ext, ∃ o, (∀ i h, St i h → True) ∧ ((∃ o', g.get? b = some o') ∨ ((∀ i m' n', J i m' n' → (b, o) ∈ n'))))
    (hst : St 0 s.heap) (F : Fr g env.locals s.heap m) (N : News g env.locals s.heap news) (hn : ∀ p ∈ news, p.1 ≠ I) (h0 : J 0 m news)
    (step : ∀ i v m₁ news₁ h tk oI, i < n → P i v → J i m₁ news₁ → (∀ p ∈ news₁, p.1 ≠ I) → Fr g env.locals h (fun y => if y = x then some v else m₁ y) → News g env.locals h ((I, oI) :: news₁) →
      wpAny (model prog w) A (execs body env) (StepP g env.locals I oI (J (i + 1)) { s with heap := h, toks := tk } Q) E { s with heap := h, toks := tk })
    (done : ∀ h tk m₁ news₁, J n m₁ news₁ → Fr g env.locals h m₁ → News g env.locals h news₁ → Q .next { s with heap := h, toks := tk }) :
    LoopAtV prog w A g env x body Q E (.ref I) s := by
  refine ex9 I (I :: ext) [I] n P St m news J ⟨rfl, W, ?_, ?_, ?_, hst, F, N, h0, ?_, ?_⟩
  · intro hm
    rcases List.mem_cons.mp hm with e | hm
    · exact hIL e.symm
    · exact hext _ hm rfl
  · intro b hb
    rw [List.mem_singleton.mp hb]
    exact hIg
  · intro p hp hI
    exact hn p hp (List.mem_singleton.mp hI)
  · rintro i v m₁ news₁ s₁ own rq1 hin hP hJ hoff hown hown2 hown3 hSt F₁ N₁
    walk_at "open"
    obtain ⟨hh', tk', rfl⟩ := rq1
    obtain ⟨oI, hoI⟩ := hIo _ _ hSt
    walk_at "shut"
    have hoff' : ∀ p ∈ news₁, p.1 ≠ I := fun p hp e => hoff p hp (List.mem_singleton.mpr e)
    have hmem : (I, oI) ∈ own := hown3 I (.head _) hIg oI hoI
    have N₂ : News g env.locals hh' ((I, oI) :: news₁) := fun p hp => by
      rcases List.mem_cons.mp hp with rfl | hp
      · exact N₁ _ (List.mem_append_left _ hmem)
      · exact N₁ _ (List.mem_append_right _ hp)
    refine wpAny_mono (step i v m₁ news₁ hh' tk' oI hin hP hJ hoff' F₁ N₂) (fun f s₂ p => ?_) fun _ _ e => e
    have fin : ∀ f', StepE g env.locals I oI (J (i + 1)) { s with heap := hh', toks := tk' } s₂ → f' = Flow.next →
        LoopStepU g env.locals [I] own (J (i + 1)) { s with heap := hh', toks := tk' } f' s₂ := by
      rintro f' ⟨h', tk, m', n', e, F', N', hn', hJ'⟩ rfl
      refine ⟨rfl, h', tk, m', n', e, F', fun p hp => ?_, fun p hp hq => hn' p hp (List.mem_singleton.mp hq), hJ'⟩
      rcases List.mem_append.mp hp with hp | hp
      · rcases List.mem_cons.mp (hown p hp) with h1 | h1
        · have : p = (I, oI) := by
            have q := hown2 p hp
            rw [h1, hoI] at q
            exact Prod.ext h1 (Option.some.inj q).symm
          exact N' p (this ▸ .head _)
        · walk_at "open"
          obtain ⟨o, _, hc⟩ := hk _ h1
          walk_at "shut"
          rcases hc with ⟨o', hg⟩ | hc
          · have := (N₁ p (List.mem_append_left _ hp)).2.2
            rw [hg] at this; cases this
          · have a := N₁ _ (List.mem_append_right _ (hc _ _ _ hJ))
            have b := hown2 p hp
            have : p = (p.1, o) := Prod.ext rfl (Option.some.inj (b.symm.trans a.1))
            rw [this]
            exact N' _ (.tail _ (hc _ _ _ hJ'))
      · exact N' p (.tail _ hp)
    cases f with
    | ret v => exact .ret p
    | brk => exact .brk p
    | next => exact .next (fin _ p rfl)
    | cont => exact .cont (fin _ p rfl)
  · rintro h' tk m' news' F' N' _ hJ
    exact done h' tk m' news' hJ F' N'

theorem fresh_ne {h : Heap} {L : Addr} {m : Str → Option Value} (F : Fr g L h m) : h.objs.size ≠ L := Nat.ne_of_gt F.ns.lt
theorem fresh_none {h : Heap} {L : Addr} {m : Str → Option Value} (F : Fr g L h m) : g.get? h.objs.size = none := by
  cases q : g.get? h.objs.size with
  | none => rfl
  | some o => exact absurd (Heap.lt_size (F.keep _ _ q)) (Nat.lt_irrefl _)

theorem it_range {r : Addr} {a b : Int} {t u v : Tok} {n : Nat} (hh : A.handled = none) (J : Nat → (Str → Option Value) → Led → Prop)
    (hr : IsRange s.heap r a b 1 t u v) (hsm : Builtin.Range.small a b 1 = true) (hn : Builtin.Range.rangeSize a b 1 = ((n : Nat) : Int))
    (F : Fr g env.locals s.heap m) (N : News g env.locals s.heap news) (h0 : J 0 m news)
    (step : ∀ I i t₀ m₁ news₁ h tk oI, i < n → J i m₁ news₁ → (∀ p ∈ news₁, p.1 ≠ I) → Fr g env.locals h (fun y => if y = x then some (.int (a + (i : Int)) t₀) else m₁ y) → News g env.locals h ((I, oI) :: news₁) →
      wpAny (model prog w) A (execs body env) (StepP g env.locals I oI (J (i + 1)) { s with heap := h, toks := tk } Q) E { s with heap := h, toks := tk })
    (done : ∀ h tk m₁ news₁, J n m₁ news₁ → Fr g env.locals h m₁ → News g env.locals h news₁ → Q .next { s with heap := h, toks := tk }) :
    wpAny (model prog w) A (pyIter (.ref r)) (fun it s₂ => LoopAtV prog w A g env x body Q E it s₂) E s := by
  refine wpAny_pyIter_range hr hsm ?_
  have W := LCg.range_walks (prog := prog) (w := w) (I := s.heap.objs.size) hh a n
  refine loop_on (ext := []) (s := { s with heap := s.heap.push _ }) W (fresh_none F) (fresh_ne F) (fun b hb => nomatch hb) (fun i h hs => ⟨_, hs⟩) J (fun b hb => nomatch hb)
    (by show IsRangeIter _ _ _ _ _; rw [hn]; simpa using Heap.get?_push_size _ rfl) (F.push _) (fun p hp => ⟨Heap.get?_push_of_some _ (N p hp).1, (N p hp).2⟩) (fun p hp => Nat.ne_of_lt (Heap.lt_size (N p hp).1)) h0
    (fun i v m₁ news₁ h tk oI hi hP hJ hn F₁ N₁ => by obtain ⟨t₀, rfl⟩ := hP; exact step _ i t₀ m₁ news₁ h tk oI hi hJ hn F₁ N₁) (fun h tk m₁ news₁ hJ F₁ N₁ => done h tk m₁ news₁ hJ F₁ N₁)
end
end Mine

end
section
open PySem PySem.W PySem.W.X PyProof.Rows PySem.Calls PySem.Spec PyProof.V
namespace Mine
theorem compEnd_mono {h₀ : Heap} {L : Addr} {m : Str → Option Value} {s₁ : Shared} {I : Addr} {oI : Obj} {C : Addr} {oC : Obj} {D : Addr} {oD : Obj} {S : Led → Prop} {r r' : Value → Led → Prop} {y : Value} {s₂ : Shared}
    (x : LCg.CompEnd h₀ L m s₁ I oI C oC D oD S r y s₂) (h : ∀ y n, r y n → r' y n) : LCg.CompEnd h₀ L m s₁ I oI C oC D oD S r' y s₂ :=
  Exists.imp (fun _ => Exists.imp fun _ => Exists.imp fun _ => And.imp_right (And.imp_right (And.imp_right (And.imp_right (And.imp_right (h _ _)))))) x
section
variable {prog : Program} {w : World} {A : Around} {h₀ : Heap} {L : Addr} {m : Str → Option Value} {env : Env} {elt ct : Expr} {x : Str} {scope : Scope} {cl : List (Str × Addr)} {s : Shared} {S : Led → Prop} {P : Nat → Value → Prop} {Fin : List Value → Led → Prop}
theorem comp_all (J : Nat → List Value → Led → Prop) (n : Nat)
    (step : ∀ i ys news v I oI C oC D m₂ h tk (E' : Value → Shared → Prop), i < n → P i v → J i ys news → LCg.NsObj oC m₂ → m₂ x = some v → Fr h₀ L h m → News h₀ L h ((I, oI) :: (C, oC) :: (D, LCg.lst ys) :: news) → LCg.Off3 I C D news → ((@Ne Nat I C) ∧ (@Ne Nat I D) ∧ (@Ne Nat C D)) →
      wpAny (model prog w) A (eval elt (compEnvC scope cl C env)) (LCg.CompEnd h₀ L m { s with heap := h, toks := tk } I oI C oC D (LCg.lst ys) S (fun y news' => J (i + 1) (ys ++ [y]) news')) E' { s with heap := h, toks := tk })
    (fin : ∀ ys news, J n ys news → Fin ys news) : ∀ {k i : Nat} {ys : List Value} {news : Led}, i + k = n → J i ys news → LCg.CompRest prog w A h₀ L m env elt x scope cl s S P Fin k i ys news
  | 0, i, ys, news, e, h => by
    obtain rfl : i = n := e
    exact LCg.CompRest.zero (fin _ _ h)
  | k + 1, i, ys, news, e, h => LCg.CompRest.succ fun v I oI C oC D m₂ h' tk E' hP hC hx F N off ne =>
    wpAny_mono (step i ys news v I oI C oC D m₂ h' tk E' (by lia) hP h hC hx F N off ne) (fun _ _ z => compEnd_mono z fun _ _ q => comp_all J n step fin (by lia) q) fun _ _ e => e
theorem compT_all (J : Nat → List Value → Led → Prop) (n : Nat)
    (step : ∀ i ys news v I oI C oC D m₂ h tk (E' : Value → Shared → Prop), i < n → P i v → J i ys news → LCg.NsObj oC m₂ → m₂ x = some v → Fr h₀ L h m → News h₀ L h ((I, oI) :: (C, oC) :: (D, LCg.lst ys) :: news) → LCg.Off3 I C D news → ((@Ne Nat I C) ∧ (@Ne Nat I D) ∧ (@Ne Nat C D)) →
      wpAny (model prog w) A (isTrue ct (compEnvC scope cl C env) (eval ct (compEnvC scope cl C env))) (fun ok s' => if ok = true then
        wpAny (model prog w) A (eval elt (compEnvC scope cl C env)) (LCg.CompEnd h₀ L m { s with heap := h, toks := tk } I oI C oC D (LCg.lst ys) S (fun y news' => J (i + 1) (ys ++ [y]) news')) E' s'
        else LCg.CompEnd h₀ L m { s with heap := h, toks := tk } I oI C oC D (LCg.lst ys) S (fun _ news' => J (i + 1) ys news') Value.none s') E' { s with heap := h, toks := tk })
    (fin : ∀ ys news, J n ys news → Fin ys news) : ∀ {k i : Nat} {ys : List Value} {news : Led}, i + k = n → J i ys news → LCt.CompRestT prog w A h₀ L m env ct elt x scope cl s S P Fin k i ys news
  | 0, i, ys, news, e, h => by
    obtain rfl : i = n := e
    exact LCt.CompRestT.zero (fin _ _ h)
  | k + 1, i, ys, news, e, h => LCt.CompRestT.succ fun v I oI C oC D m₂ h' tk E' hP hC hx F N off ne =>
    wpAny_mono (step i ys news v I oI C oC D m₂ h' tk E' (by lia) hP h hC hx F N off ne) (fun ok s' z => by
      cases ok
      · simp only [Bool.false_eq_true, if_false] at z ⊢
        exact compEnd_mono z fun _ _ q => compT_all J n step fin (by lia) q
      · simp only [if_true] at z ⊢
        exact wpAny_mono z (fun _ _ z => compEnd_mono z fun _ _ q => compT_all J n step fin (by lia) q) fun _ _ e => e) fun _ _ e => e
end
noncomputable def Stop (p : Prop) : Prop := p
theorem stop_ {p : Prop} (h : Stop p) : p := h
theorem go_ {p : Prop} (h : p) : Stop p := h
noncomputable def Has (base nw : Led) : Prop := ∀ p ∈ base, p ∈ nw
theorem Has.refl (b : Led) : Has b b := fun _ h => h
theorem Has.app (j b : Led) : Has b (j ++ b) := fun _ h => List.mem_append_right _ h
theorem has_news {h₀ h : Heap} {L : Addr} {a b c : Addr × Obj} {base nw : Led} (H : Has base nw) (N : News h₀ L h (a :: b :: c :: nw)) : News h₀ L h (a :: b :: c :: base) := news_more [_, _, _] H N
theorem has_news1 {h₀ h : Heap} {L : Addr} {a : Addr × Obj} {base nw : Led} (H : Has base nw) (N : News h₀ L h (a :: nw)) : News h₀ L h (a :: base) := news_more [_] H N
theorem has_off {I C D : Addr} {base nw : Led} (H : Has base nw) (o : LCg.Off3 I C D nw) : LCg.Off3 I C D base := LCg.Off3.of fun p hp => LCg.Off3.mem o p (H p hp)
theorem off1_mem {D : Addr} : ∀ {l : Led}, LCg.Off1 D l → ∀ q ∈ l, q.1 ≠ D
  | [], _, _, h => nomatch h
  | a :: l, x, q, hq => by
    rcases List.mem_cons.mp hq with rfl | hq
    · exact x.1
    · exact off1_mem x.2 q hq
theorem news_head {h₀ h : Heap} {L : Addr} {a : Addr × Obj} {r : Led} (N : News h₀ L h (a :: r)) : News h₀ L h [a] := news_blk [[_], _] [0] N
noncomputable def JD (base : Led) (i : Nat) (ys : List Value) (nw : Led) : Prop := Has base nw ∧ ys.length = i ∧ ∃ ns, IntsAre ys ns ∧ ∀ n ∈ ns, 0 ≤ n ∧ n < 1000000
end Mine

end
section
open PySem PySem.W PySem.W.X PyProof.Rows PySem.Calls
namespace Mine
def Halt (_ : String) : Prop := True
def HaltS (_ : String) : Prop := True
theorem stopS {x : String} (_ : HaltS x) {M : Model} {A : Around} {e : Env} {v : Value} {Q : Unit → Shared → Prop} {E : Value → Shared → Prop} {s : Shared} (h : Stop (wpAny M A (storeName e (Str.ofString x) v) Q E s)) : wpAny M A (storeName e (Str.ofString x) v) Q E s := h
section
variable {M : Model} {A : Around} {E : Value → Shared → Prop} {env : Env} {H : Heap} {g : Array GenState} {D : Drawn} {T : Nat} {O : OsState}
theorem const_i {i : Int} {k pos} {Q : Value → Shared → Prop} (h : Q (.int i T) (Shared.mk H g D (T + 1) O)) : wpAny M A (eval (.Constant (.int i) k pos) env) Q E (Shared.mk H g D T O) := wpAny_Constant_int (s := Shared.mk H g D T O) h
theorem const_s {x : Str} {k : Nat} {pos : Pos} {Q : Value → Shared → Prop} (h : Q (.str x T) (Shared.mk H g D (T + 1) O)) : wpAny M A (eval (.Constant (.str x) k pos) env) Q E (Shared.mk H g D T O) := Constant_str (s := Shared.mk H g D T O) h
theorem store_L {h₀ : Heap} {L a : Addr} {m : Str → Option Value} {cn : Str} {cs : Scope} {ccd : Value} {cl : List (Str × Addr)} {x : Str} {v : Value} {Q : Unit → Shared → Prop} {news : List (Addr × Obj)} (F : Fr h₀ L H m) (N : News h₀ L H news)
    (h : ∀ h', Fr h₀ L h' (fun y => if y = x then some v else m y) → News h₀ L h' news → Q () (Shared.mk h' g D (T + 1) O))
    (hk : cs.kind = .function) (hx : (envX cn cs L a ccd cl).kindOf x = some .local) : wpAny M A (storeName (envX cn cs L a ccd cl) x v) Q E (Shared.mk H g D T O) := storeX_L (s := Shared.mk H g D T O) F N h hk hx
end
end Mine

end
section
open PySem PySem.W PySem.W.X PyProof.Rows PySem.Calls PySem.Spec PyProof.V
open PySem.Sem (wp)
namespace Mine
theorem noBool_set : typeLookup (.type "set") "__bool__" = pure none := by rw [typeLookup_type, builtinLookup_eq_fast]; kernel_rfl
section
variable {prog : Program} {w : World} {A : Around} {E : Value → Shared → Prop} {s : Shared}
theorem choose_any {src : Source} {n : Nat} {Q : Nat → Shared → Prop} (hn : n ≠ 0) (h : ∀ k d, k < n → Q k { s with drawn := d }) : wpAny (model prog w) A (choose src n) Q E s := by
  intro Γ p hΓ
  unfold choose
  rw [PySem.Sem.wp_choose]
  exact ⟨hn, h _ _ (Nat.mod_lt _ (Nat.pos_of_ne_zero hn))⟩
theorem truthy_set {a : Addr} {o : Obj} {es : Array (Int × Value)} {ep : Nat} {t : SetTable} {Q : Bool → Shared → Prop} (ho : s.heap.get? a = some o) (hex : o.ExactSet) (hd : o.data = .set es ep t) (hf : t.fits es.size = true)
    (hfit : (es.size : Int) < 2 ^ 63) (h : Q ((es.size : Int) != 0) { s with toks := s.toks + 1 + 1 }) : wpAny (model prog w) A (truthy (.ref a)) Q E s := by
  have hT : s.TypeIs (.ref a) "set" := ⟨o, ho, hex.1⟩
  have key : wpAny (model prog w) A (runValue (.builtin "len" ⟨[.ref a], []⟩)) (fun r s' => r = .int es.size (s.toks + 1) ∧ Q ((es.size : Int) != 0) s') E s := by
    refine wpAny_runValue (codeAny_builtin entry_len ?_)
    rw [Around.under_plainId plain_len _]
    exact wpAny_mono (wpAny_len_body_set (Q := fun r s' => r = .int es.size (s.toks + 1) ∧ Q ((es.size : Int) != 0) s') ho hex hd hf hfit ⟨rfl, h⟩)
      (fun fin s' h' => by obtain ⟨r, rfl, hq⟩ := h'; exact hq) fun _ _ e => e
  unfold truthy
  first
    | refine wpAny_bind (wpAny_callSpecial?_none (name := Str.ofString "__bool__") hT noBool_set ?_)
    | refine wpAny_bind (wpAny_pure (wpAny_bind (wpAny_callSpecial?_none (name := Str.ofString "__bool__") hT noBool_set ?_)))
  first
    | refine wpAny_bind (wpAny_specialOf (name := Str.ofString "__len__") hT F.slot_set_len.lookup ?_)
    | refine wpAny_bind (wpAny_pure (wpAny_bind (wpAny_specialOf (name := Str.ofString "__len__") hT F.slot_set_len.lookup ?_)))
  first
    | exact wpAny_bind (wpAny_mono key (fun r s' h' => by obtain ⟨rfl, hq⟩ := h'; exact wpAny_pure hq) fun _ _ e => e)
    | exact wpAny_bind (wpAny_pure (wpAny_bind (wpAny_mono key (fun r s' h' => by obtain ⟨rfl, hq⟩ := h'; exact wpAny_pure hq) fun _ _ e => e)))
theorem pop_one {a : Addr} {o : Obj} {es : Array (Int × Value)} {e : Int × Value} {ep : Nat} {t : SetTable} {Q : Value → Shared → Prop} (ho : s.heap.get? a = some o) (hex : o.ExactSet) (hd : o.data = .set es ep t) (hf : t.fits es.size = true)
    (he : es = #[e]) (h : ∀ d, Q e.2 { s with heap := s.heap.update a (Obj.putSet #[] (t.popped 0)), drawn := d }) : wpAny (model prog w) A (call (.builtin "set.pop") [.ref a]) Q E s := by
  have hT : s.TypeIs (.ref a) "set" := ⟨o, ho, hex.1⟩
  subst he
  refine wpAny_call_entry F.slot_set_pop hT F.entry_set_pop ?_ (F.args_set_pop_1 _)
  unfold Builtin.«set.pop» Builtin.Frozenset.noArgs
  simp only [List.isEmpty_nil, bind_assoc]
  unfold Builtin.Frozenset.addrOf setPop setsByText
  refine wpAny_bind (wpAny_pure ?_)
  try dsimp only
  refine wpAny_bind ?_
  refine wpAny_bind (wpAny_setState_of ho hd hf ?_)
  dsimp only
  have hz : t.place.size = 1 := by
    simp only [SetTable.fits, Bool.and_eq_true, beq_iff_eq, decide_eq_true_eq] at hf
    exact hf.1
  have hp : t.popPlace = some 0 := by
    unfold SetTable.popPlace
    rw [if_neg (by rw [Array.isEmpty_iff_size_eq_zero, hz]; decide)]
    rw [hz]
    dsimp only
    split
    · rename_i q; rw [Nat.lt_one_iff.mp q]
    · rfl
  rw [hp]
  dsimp only
  have fin : ∀ d, wpAny (model prog w) A.in1 (do
      match (#[e] : Array (Int × Value))[0]? with
        | some (fst, x) => do
          storeSet a (SetTable.eraseAt #[e] 0) (t.popped 0)
          pure (some x)
        | x => unsupported "internal:set.pop") (fun a s' =>
      wpAny (model prog w) A.in1
        (match a with
        | some x => ret x
        | x => do
          rule "set.pop.empty"
          raiseErrorWords "KeyError" "pop from an empty set")
        (fun fin s' => ∃ v, fin = Fin.done (Flow.ret v) ∧ Q v s') E s') E { s with drawn := d } := fun d => by
    show wpAny _ _ (do storeSet a (SetTable.eraseAt #[e] 0) (t.popped 0); pure (some e.2)) _ _ _
    refine wpAny_bind (wpAny_storeSet_of ho hd ?_ (by show 0 ≤ _; exact Nat.zero_le _))
    refine wpAny_pure ?_
    dsimp only
    exact wpAny_pure ⟨_, rfl, h d⟩
  refine wpAny_bind (wpAny_bind (wpAny_askSetting (wpAny_pure ?_)))
  split
  · refine wpAny_bind (choose_any (by simp) fun k d hk => ?_)
    obtain rfl : k = 0 := by simpa using hk
    exact fin d
  · refine wpAny_bind ?_
    show wpAny _ _ (if (!t.led && decide ((#[e] : Array (Int × Value)).size > 1)) = true then unsupported "set:maker-not-led" else pure ()) _ _ _
    rw [if_neg (by simp)]
    refine wpAny_pure ?_
    refine wpAny_bind (wpAny_pure ?_)
    exact fin s.drawn
theorem method_pop {a : Addr} {o : Obj} {pl : Sem Bool} {Q : Value × List Value → Shared → Prop} (ho : s.heap.get? a = some o) (hex : o.ExactSet) (h : Q (.builtin "set.pop", [.ref a]) s) :
    wpAny (model prog w) A (getMethod (.ref a) "pop" pl) Q E s :=
  getMethod_builtin ⟨o, ho, hex.1⟩ F.plainAttrs_set F.slot_set_pop F.type_set_pop (fun b e => by injection e with e; subst e; exact ⟨o, ho, hex.2.1⟩) h
theorem add_new {a : Addr} {o : Obj} {es es1 : Array (Int × Value)} {ep : Nat} {t t1 : SetTable} {x : Int} {tk : Tok} {wd gv : Bool} {Q : Value → Shared → Prop} (ho : s.heap.get? a = some o) (hex : o.ExactSet) (hd : o.data = .set es ep t) (hf : t.fits es.size = true)
    (hb : es.size < scanBound) (hel : ElemsOf (intKind prog w) es.toList) (hni : es.toList.findIdx? (fun e => (intKind prog w).is x e.2) = none) (hL : layNew t es ((intKind prog w).hash x) (.int x tk) = (es1, t1, wd, gv)) (hpl : t1.plain = true)
    (hfull : (!wd && t1.tooFull) = false) (hsz : es1.size ≤ sizeLine) (h : Q .none { s with heap := s.heap.update a (Obj.putSet es1 t1), toks := s.toks + 1 }) :
    wpAny (model prog w) A (call (.builtin "set.add") [.ref a, .int x tk]) Q E s := by
  have hT : s.TypeIs (.ref a) "set" := ⟨o, ho, hex.1⟩
  refine wpAny_call_entry F.slot_set_add hT F.entry_set_add ?_ (F.args_set_add_2 _ _)
  unfold Builtin.«set.add» Builtin.Frozenset.oneOther
  simp only [List.isEmpty_nil, bind_assoc]
  unfold Builtin.Frozenset.addrOf setAdd
  refine wpAny_bind (wpAny_pure ?_)
  try dsimp only
  refine wpAny_bind (wpAny_pure ?_)
  try dsimp only
  refine wpAny_bind ?_
  refine wpAny_holding ?_
  refine wpAny_bind ((intKind prog w).pyHash (intKind_is _ _ _ _) ?_)
  unfold setAddHashed setAddHashedIn
  refine wpAny_holding (wpAny_bind (wpAny_setState_of (s := { s with toks := s.toks + 1 }) ho hd hf ?_))
  dsimp only
  first | refine ite_pos (byScan_of rfl hb hel) ?_ | rw [if_pos (byScan_of rfl hb hel)]
  unfold setAddByScan
  refine wpAny_bind ?_
  refine wpAny_bind (wpAny_rule ?_)
  refine wpAny_bind (wpAny_setScan_of (s := { s with toks := s.toks + 1 }) (intKind_is _ _ _ _) ho hd hf hel ?_)
  rw [hni]
  dsimp only
  rw [hL]
  dsimp only
  have hgw : ∀ (b : Bool) {s₁ : Shared} {Q' : Unit → Shared → Prop}, Q' () s₁ → wpAny (model prog w) A.in1 (match b with | true => rule "set.scan.the-table-gave-way" | false => pure ()) Q' E s₁ :=
    fun b s₁ Q' hq => by cases b <;> first | exact wpAny_pure hq | exact wpAny_rule hq
  refine wpAny_bind (hgw _ ?_)
  first | refine ite_pos hpl ?_ | rw [if_pos hpl]
  refine wpAny_bind ?_
  rw [hashByValue_scannable 8 rfl]
  refine wpAny_pure ?_
  rw [if_pos (show plainKind (Value.int x tk) = true from rfl)]
  refine wpAny_bind (wpAny_storeSet_of (s := { s with toks := s.toks + 1 }) ho hd ?_ hsz)
  first | refine ite_neg (ne_true_of_eq_false hfull) ?_ | rw [if_neg (ne_true_of_eq_false hfull)]
  refine wpAny_pure (wpAny_pure ?_)
  exact wpAny_pure ⟨_, rfl, h⟩
noncomputable def setO (w : World) (es : Array (Int × Value)) (ep : Nat) (place : Array Nat) : Obj := { cls := .type "set", dict := none, data := .set es ep { mask := 7, place := place, dummies := #[], finger := 0, led := !w.params.followText "set-order", moves := 0, plain := true } }
theorem code_new_set {Q₁ : Value → Shared → Prop} (h : Q₁ (.ref s.heap.objs.size) { s with heap := s.heap.push (setO w #[] 0 #[]) }) :
    codeAny (model prog w) A (.call (.builtin "set.__new__") ⟨[.type "set"], []⟩) (wants Q₁ E) s := by
  refine codeAny_of_tree ?_
  show wpAny _ A.in1 (do checkBuiltinCall "set.__new__" ⟨[.type "set"], []⟩; again (.builtin "set.__new__" ⟨[.type "set"], []⟩)) _ _ s
  refine wpAny_bind (wpAny_of_eq F.newCall_set_0 (wpAny_pure ⟨plainId_quiet F.plain_set_new _, codeAny_builtin F.entry_set_new ?_⟩))
  rw [Around.under_plainId F.plain_set_new _]
  unfold Builtin.«set.__new__» Builtin.Frozenset.newClass
  have hsub := sub_set_self
  walk_at "open"
  obtain ⟨hp, g, d, tk, os⟩ := s
  walk_at "shut"
  dsimp only
  wp_walk
  refine wpAny_askSetting (wpAny_pure ?_)
  dsimp only
  simp only [newObj]
  refine wpAny_bind (wpAny_alloc (wpAny_pure ?_))
  exact wpAny_pure h
theorem new_set {Q : Value → Shared → Prop} (h : Q (.ref s.heap.objs.size) { s with heap := s.heap.push (setO w #[] 0 #[]) }) :
    wpAny (model prog w) A (call (.type "set") []) Q E s := by
  walk_at "open"
  obtain ⟨c, tl, hmro⟩ := F.called_set.mro
  walk_at "shut"
  have hmade := F.called_set.made
  have hsub := F.called_set.sub
  refine wpAny_call (codeAny_of_tree ?_)
  show wpAny _ _ (callAny (.type "set") _) _ _ _
  refine wpAny_pure ⟨Code.quiet_builtin _ (by decide +kernel), codeAny_builtin F.entry_type_call ?_⟩
  rw [Around.under_plain (weight_type_call_type "set" [] []) rfl]
  have h1 := F.called_set.notType
  have h2 := F.called_set.canCreate
  have hct := F.typeCall_set_0
  repeat (any_goals (first | assumption | wp_step))
  refine codeAny_mono (code_new_set (E := E) (Q₁ := fun obj s₁ => obj = .ref s.heap.objs.size ∧ s₁ = { s with heap := s.heap.push (setO w #[] 0 #[]) }) ⟨rfl, rfl⟩) fun r s₁ hr => ?_
  cases r with
  | error e => exact hr
  | ok fl =>
    cases fl with
    | ret obj =>
      obtain ⟨rfl, rfl⟩ := hr
      have hT : Shared.TypeIs { s with heap := s.heap.push (setO w #[] 0 #[]) } (.ref s.heap.objs.size) "set" := ⟨_, Heap.get?_push_size _ rfl, rfl⟩
      have hli := F.called_set.init.lookup
      have hbi := F.called_set.init.bind (.ref s.heap.objs.size)
      repeat (any_goals (first | assumption | wp_step))
      refine codeAny_mono (codeAny_call_builtin (R := wants (fun r s₂ => r = .none ∧ Q (.ref s.heap.objs.size) s₂) E) F.called_set.init.plain F.entry_set_init (check_set_init hT ?_)) fun r₂ s₂ hr₂ => ?_
      · unfold Builtin.«set.__init__» noKeywords
        wp_walk
        exact ⟨rfl, h⟩
      · cases r₂ with
        | error e => exact hr₂
        | ok fl₂ =>
          cases fl₂ with
          | ret r =>
            obtain ⟨rfl, hq⟩ := hr₂
            repeat (any_goals (first | assumption | wp_step))
          | _ => exact hr₂.elim
    | _ => exact hr.elim
end
end Mine

end
section
open PySem PySem.W PySem.W.X PyProof.Rows PySem.Calls PySem.Spec PyProof.V
open PySem.Sem (wp)
namespace Mine
theorem slot_sin : Slot "set_iterator" "__next__" "set_iterator.__next__" :=
  .of (owner := "set_iterator") (n := "__next__") (by rw [typeLookup_type, builtinLookup_eq_fast]; kernel_rfl) (by decide +kernel) (by decide +kernel) (by decide +kernel)
    (by first | exact .inl (by decide +kernel) | exact .inr (by decide +kernel)) (by rw [isSubtype_type]; kernel_rfl)
theorem slot_sii : Slot "set_iterator" "__iter__" "set_iterator.__iter__" :=
  .of (owner := "set_iterator") (n := "__iter__") (by rw [typeLookup_type, builtinLookup_eq_fast]; kernel_rfl) (by decide +kernel) (by decide +kernel) (by decide +kernel)
    (by first | exact .inl (by decide +kernel) | exact .inr (by decide +kernel)) (by rw [isSubtype_type]; kernel_rfl)
theorem entry_sin : entryFor table "set_iterator.__next__" = some Builtin.«set_iterator.__next__» := entryFor_of_tree (by kernel_rfl)
theorem entry_sii : entryFor table "set_iterator.__iter__" = some Builtin.«dict_keyiterator.__iter__» :=
  entryFor_alias (id' := "dict_keyiterator.__iter__") (by rw [fastTable_eq_tree]; kernel_rfl) rfl (by decide +kernel) (by rw [fastTable_eq_tree]; kernel_rfl)
theorem entry_siter : entryFor table "set.__iter__" = some Builtin.«frozenset.__iter__» :=
  entryFor_alias (id' := "frozenset.__iter__") (by rw [fastTable_eq_tree]; kernel_rfl) rfl (by decide +kernel) (by rw [fastTable_eq_tree]; kernel_rfl)
theorem args_sin (a : Value) : argsOk "set_iterator.__next__" ⟨[a], []⟩ := by unfold argsOk; kernel_rfl
theorem args_sii (a : Value) : argsOk "set_iterator.__iter__" ⟨[a], []⟩ := by unfold argsOk; kernel_rfl
noncomputable def slotAt (place : Array Nat) (i : Nat) : Nat := if i = 0 then 0 else place.getD (i - 1) 0 + 1
noncomputable def sit (w : World) (a : Addr) (place : Array Nat) (n ep i : Nat) : Obj := { cls := .type "set_iterator", data := .fields #[rawInt (if w.params.followText "set-order" then (0 : Nat) else slotAt place i : Nat), rawInt i, .ref a, rawInt n, rawInt ep] }
noncomputable def ordO (w : World) (a : Addr) (es : Array (Int × Value)) (ep : Nat) : Array (Int × Value) := if w.params.followText "set-order" then pickOrder (w.params.setOrder a ep) es else es
section
variable {prog : Program} {w : World} {A : Around} {E : Value → Shared → Prop} {s : Shared} {a I : Addr} {es : Array (Int × Value)} {ep : Nat} {place : Array Nat}
theorem iter_set {Q : Value → Shared → Prop} (ho : s.heap.get? a = some (setO w es ep place)) (hf : place.size = es.size) (h7 : place.size ≤ 7) (hQ : Q (.ref s.heap.objs.size) { s with heap := s.heap.push (sit w a place es.size ep 0) }) : wpAny (model prog w) A (pyIter (.ref a)) Q E s := by
  have hT : s.TypeIs (.ref a) "set" := ⟨_, ho, rfl⟩
  have hfit : SetTable.fits { mask := 7, place := place, dummies := #[], finger := 0, led := !w.params.followText "set-order", moves := 0, plain := true } es.size = true := by
    simp only [SetTable.fits, hf, BEq.rfl, Bool.true_and, decide_eq_true_eq, SetTable.fill]
    rw [hf] at h7
    simpa using h7
  refine wpAny_pyIter_slot hT F.slot_set_iter (wpAny_call_entry F.slot_set_iter hT entry_siter ?_ (F.args_set_iter_1 _))
  unfold Builtin.«frozenset.__iter__» Builtin.Frozenset.slot0 slotArgs
  simp -iota only [List.isEmpty_nil, Bool.not_true, Bool.false_eq_true, ↓reduceIte, bind_assoc, List.length_nil, bne_self_eq_false]
  unfold Builtin.Frozenset.addrOf Builtin.Frozenset.sizeOf
  refine wpAny_bind (wpAny_pure ?_)
  try dsimp only
  refine wpAny_bind (wpAny_pure ?_)
  refine wpAny_bind (wpAny_bind (wpAny_setEntries_of ho rfl hfit (wpAny_pure ?_)))
  unfold setDrawn setsByText
  refine wpAny_bind (wpAny_bind (wpAny_setState_of ho rfl hfit ?_))
  dsimp only
  refine wpAny_bind (wpAny_bind (wpAny_askSetting (wpAny_pure (wpAny_pure ?_))))
  split
  · rename_i hc
    exact absurd hc (show ¬ ((!w.params.followText "set-order" && (!true && decide (es.size > 1))) = true) by simp)
  refine wpAny_bind (wpAny_pure ?_)
  unfold setEpoch
  refine wpAny_bind (wpAny_bind (wpAny_setState_of ho rfl hfit (wpAny_pure ?_)))
  dsimp only
  refine wpAny_bind (wpAny_newObj_type ?_)
  refine wpAny_pure ⟨_, rfl, "set_iterator", _, ⟨_, Heap.get?_push_size _ rfl, rfl⟩, slot_sin.lookup, ?_⟩
  have e : sit w a place es.size ep 0 = { cls := .type "set_iterator", data := .fields #[rawInt 0, rawInt 0, .ref a, rawInt es.size, rawInt ep] } := by
    unfold sit slotAt
    split <;> rfl
  rw [← e]
  exact hQ
theorem iter_self {n i : Nat} {Q : Value → Shared → Prop} (ho : s.heap.get? I = some (sit w a place n ep i)) (h : Q (.ref I) s) : wpAny (model prog w) A (pyIter (.ref I)) Q E s := by
  have hT : s.TypeIs (.ref I) "set_iterator" := ⟨_, ho, rfl⟩
  refine wpAny_pyIter_slot hT slot_sii (wpAny_call_entry slot_sii hT entry_sii ?_ (args_sii _))
  show wpAny _ _ (ret (.ref I)) _ _ s
  exact wpAny_pure ⟨_, rfl, "set_iterator", _, hT, slot_sin.lookup, h⟩
theorem pick_set {i : Nat} {r : Option (Value × Nat)} {Q : Option (Value × Nat) → Shared → Prop} (ho : s.heap.get? a = some (setO w es ep place)) (hf : place.size = es.size) (hfit : SetTable.fits { mask := 7, place := place, dummies := #[], finger := 0, led := !w.params.followText "set-order", moves := 0, plain := true } es.size = true)
    (hb : SetTable.below place (slotAt place i) = i) (hr : (ordO w a es ep)[i]?.map (fun x => (x.2, if w.params.followText "set-order" then (0 : Nat) else slotAt place (i + 1))) = r) (h : Q r s) :
    wpAny (model prog w) A (setNext a (((if w.params.followText "set-order" then (0 : Nat) else slotAt place i : Nat) : Int)).toNat ((i : Nat) : Int).toNat ((ep : Nat) : Int).toNat) Q E s := by
  unfold setNext setsByText
  (try dsimp only)
  simp -iota only [bind_assoc]
  refine wpAny_bind (wpAny_setState_of ho rfl hfit ?_)
  dsimp only
  refine wpAny_bind (wpAny_askSetting ?_)
  dsimp only
  refine wpAny_bind (wpAny_pure ?_)
  show wpAny (model prog w) A (if w.params.followText "set-order" = true then _ else _) _ _ s
  unfold ordO at hr
  cases hw : w.params.followText "set-order"
  · rw [if_neg (by decide)]
    rw [hw] at hr
    split
    · rename_i hc
      exact absurd hc (show ¬ ((!true && decide (es.size > 1)) = true) by simp)
    refine wpAny_bind ?_
    show wpAny _ _ (if (!(!false) && !es.isEmpty) = true then unsupported "set:maker-not-led" else pure ()) _ _ _
    rw [if_neg (by simp)]
    refine wpAny_pure (wpAny_pure ?_)
    have e1 : (((if (false : Bool) = true then (0 : Nat) else slotAt place i) : Nat) : Int).toNat = slotAt place i := by simp
    rw [e1, hb]
    refine Eq.mp (congrArg (fun z => Q z s) ?_) h
    rw [← hr]
    cases he : es[i]? with
    | none => simp [he]
    | some x =>
      have hi : i < es.size := (Array.getElem?_eq_some_iff.mp he).1
      have hp : place[i]? = some place[i] := Array.getElem?_eq_getElem (by lia)
      rw [hp]
      simp [he, slotAt, Array.getD, show i < place.size by lia]
  · rw [if_pos rfl]
    rw [hw] at hr
    rw [if_neg (by simp)]
    unfold setWalk setsByText
    (try dsimp only)
    simp -iota only [bind_assoc]
    refine wpAny_bind (wpAny_setState_of ho rfl hfit ?_)
    dsimp only
    refine wpAny_bind (wpAny_askSetting ?_)
    dsimp only
    refine wpAny_bind (wpAny_pure ?_)
    refine wpAny_bind ?_
    show wpAny _ _ (if w.params.followText "set-order" = true then _ else _) _ _ _
    rw [if_pos hw]
    refine wpAny_bind (wpAny_askSetting (wpAny_pure ?_))
    dsimp only
    refine wpAny_pure ?_
    exact hr ▸ h
theorem next_set {i : Nat} {x : Int × Value} {Q : Option Value → Shared → Prop} (hI : s.heap.get? I = some (sit w a place es.size ep i)) (ho : s.heap.get? a = some (setO w es ep place)) (hf : place.size = es.size) (h7 : place.size ≤ 7)
    (hb : SetTable.below place (slotAt place i) = i) (hi : i < es.size) (hx : (ordO w a es ep)[i]? = some x)
    (hQ : ∀ h', h'.get? I = some (sit w a place es.size ep (i + 1)) → Heap.SameBut I s.heap h' → Q (some x.2) { s with heap := h' }) : wpAny (model prog w) A (pyNext (.ref I)) Q E s := by
  have hT : s.TypeIs (.ref I) "set_iterator" := ⟨_, hI, rfl⟩
  have hfit : SetTable.fits { mask := 7, place := place, dummies := #[], finger := 0, led := !w.params.followText "set-order", moves := 0, plain := true } es.size = true := by
    simp only [SetTable.fits, hf, BEq.rfl, Bool.true_and, decide_eq_true_eq, SetTable.fill]
    rw [hf] at h7
    simpa using h7
  unfold pyNext
  refine wpAny_bind (wpAny_attempt (wpAny_callSpecial?_slot (name := Str.ofString "__next__") hT slot_sin
    (wpAny_call_entry slot_sin hT entry_sin ?_ (args_sin _))))
  unfold Builtin.«set_iterator.__next__» slotArgs
  simp -iota only [List.isEmpty_nil, Bool.not_true, Bool.false_eq_true, ↓reduceIte, bind_assoc, List.length_nil, bne_self_eq_false]
  refine wpAny_bind (wpAny_pure ?_)
  try dsimp only
  refine wpAny_bind (wpAny_fieldsOf hI rfl ?_)
  dsimp only [rawInt]
  refine wpAny_bind (wpAny_setEntries_of ho rfl hfit ?_)
  rw [if_neg (by simp)]
  refine wpAny_bind (pick_set ho hf hfit hb (r := some (x.2, (if w.params.followText "set-order" then 0 else slotAt place (i + 1)))) (by rw [hx]; rfl) ?_)
  · dsimp only
    refine wpAny_bind (wpAny_setField hI rfl (by simp) ?_)
    have hI1 := Heap.get?_update_self (Obj.mapFields (·.setIfInBounds 0 (Value.int ((if w.params.followText "set-order" then (0 : Nat) else slotAt place (i + 1) : Nat) : Int) 0))) hI (Obj.isFreed_of_fields (Obj.data_mapFields rfl _))
    refine wpAny_bind (wpAny_setField (s := { s with heap := s.heap.update I _ }) hI1 (Obj.data_mapFields rfl _) (by simp) ?_)
    refine wpAny_pure ⟨_, rfl, wpAny_pure (hQ _ ?_ ((Heap.SameBut.update ..).trans (Heap.SameBut.update ..)))⟩
    rw [Heap.get?_update_self _ hI1 (Obj.isFreed_of_fields (Obj.data_mapFields (Obj.data_mapFields rfl _) _))]
    rfl
theorem next_end {Q : Option Value → Shared → Prop} (hh : A.handled = none) (hI : s.heap.get? I = some (sit w a place es.size ep es.size)) (ho : s.heap.get? a = some (setO w es ep place)) (hf : place.size = es.size) (h7 : place.size ≤ 7)
    (hb : SetTable.below place (slotAt place es.size) = es.size) (hx : (ordO w a es ep)[es.size]? = none)
    (hQ : ∀ h', Heap.ExtBut I s.heap h' → Q none { s with heap := h' }) : wpAny (model prog w) A (pyNext (.ref I)) Q E s := by
  have hT : s.TypeIs (.ref I) "set_iterator" := ⟨_, hI, rfl⟩
  have hfit : SetTable.fits { mask := 7, place := place, dummies := #[], finger := 0, led := !w.params.followText "set-order", moves := 0, plain := true } es.size = true := by
    simp only [SetTable.fits, hf, BEq.rfl, Bool.true_and, decide_eq_true_eq, SetTable.fill]
    rw [hf] at h7
    simpa using h7
  unfold pyNext
  refine wpAny_bind (wpAny_attempt (wpAny_callSpecial?_slot (name := Str.ofString "__next__") hT slot_sin
    (wpAny_call_entry slot_sin hT entry_sin ?_ (args_sin _))))
  unfold Builtin.«set_iterator.__next__» slotArgs
  simp -iota only [List.isEmpty_nil, Bool.not_true, Bool.false_eq_true, ↓reduceIte, List.length_nil, bne_self_eq_false]
  refine wpAny_bind (wpAny_pure ?_)
  try dsimp only
  refine wpAny_bind (wpAny_fieldsOf hI rfl ?_)
  dsimp only [rawInt]
  refine wpAny_bind (wpAny_setEntries_of ho rfl hfit ?_)
  rw [if_neg (by simp)]
  refine wpAny_bind (pick_set ho hf hfit hb (r := none) (by rw [hx]; rfl) ?_)
  · dsimp only
    refine wpAny_bind (wpAny_setField hI rfl (by simp) ?_)
    show wpAny _ _ (newExc (.type "StopIteration") [] >>= _) _ _ _
    refine wpAny_bind ?_
    simp -iota only [newExc, newTuple]
    refine wpAny_bind (wpAny_newObj_type ?_ (by size_fits))
    refine wpAny_bind (m := firstArgMember _ _) (wpAny_of_eq (a := Value.none) (by first | rfl | (simp only [firstArgMember]; rfl)) ?_)
    refine wpAny_newObj_type ?_ (by size_fits)
    simp -iota only [raiseNew]
    refine wpAny_bind (wpAny_handled ?_)
    rw [show A.in1.handled = none from hh]
    refine wpAny_bind (wpAny_pure (wpAny_throw ?_))
    refine wpAny_bind (wpAny_isInstance (T := "StopIteration") (b := true) ⟨_, Heap.get?_push_size _ rfl, rfl⟩ isSubtype_stop ?_)
    exact wpAny_pure (hQ _ (((Heap.SameBut.update ..).extBut.push _).push _))
theorem set_walks (hh : A.handled = none) (hne : a ≠ I) (hf : place.size = es.size) (h7 : place.size ≤ 7) (hbel : ∀ i, i ≤ es.size → SetTable.below place (slotAt place i) = i) (hord : (ordO w a es ep).size = es.size) :
    Walks prog w A I [I, a] [I] es.size (fun i v => ((ordO w a es ep)[i]?).map (·.2) = some v) (fun i h => h.get? I = some (sit w a place es.size ep i) ∧ h.get? a = some (setO w es ep place)) where
  sub := fun b hb => by simp at hb; simp [hb]
  frame := fun _ _ _ st hk => ⟨hk I (by simp) _ st.1, hk a (by simp) _ st.2⟩
  item := fun i s Q E hi st hQ => by
    have hx : (ordO w a es ep)[i]? = some (ordO w a es ep)[i] := Array.getElem?_eq_getElem (by lia)
    refine next_set st.1 st.2 hf h7 (hbel i (Nat.le_of_lt hi)) hi hx fun h' hit' hs' => ?_
    exact hQ _ h' s.toks (by rw [hx]; rfl) ⟨hit', hs'.extBut a _ hne st.2⟩ fun b o hb e => hs'.extBut b o (fun h => hb (by simp [h])) e
  done := fun s Q E st hQ => next_end hh st.1 st.2 hf h7 (hbel _ (Nat.le_refl _)) (Array.getElem?_eq_none (by lia)) fun h' he' => hQ h' s.toks fun b o hb e => he' b o (fun h => hb (by simp [h])) e
  self := fun _ _ _ _ st hQ => iter_self st.1 hQ
theorem collect_set {Q : List Value → Shared → Prop} (hh : A.handled = none) (ho : s.heap.get? a = some (setO w es ep place)) (hf : place.size = es.size) (h7 : place.size ≤ 7) (hbel : ∀ i, i ≤ es.size → SetTable.below place (slotAt place i) = i) (hord : (ordO w a es ep).size = es.size)
    (hQ : ∀ h' tk acc, (∀ b o, s.heap.get? b = some o → h'.get? b = some o) → s.heap.objs.size ≤ h'.objs.size → ItemsOf (fun i v => ((ordO w a es ep)[i]?).map (·.2) = some v) acc es.size → Q acc.toList { s with heap := h', toks := tk }) :
    wpAny (model prog w) A (collect (.ref a)) Q E s := by
  have hlt : a < s.heap.objs.size := Heap.lt_size ho
  have hfit : SetTable.fits { mask := 7, place := place, dummies := #[], finger := 0, led := !w.params.followText "set-order", moves := 0, plain := true } es.size = true := by
    simp only [SetTable.fits, hf, BEq.rfl, Bool.true_and, decide_eq_true_eq, SetTable.fill]
    rw [hf] at h7
    simpa using h7
  unfold collect
  refine wpAny_bind (wpAny_runValue (codeAny_builtin F.entry_proto_collect ?_))
  rw [Around.under_plainId F.plain_proto_collect _]
  show wpAny _ A.in1 (newList [] >>= fun l => again (.builtin "list.__iadd__" ⟨[l, .ref a], []⟩)) _ _ s
  refine wpAny_bind (wpAny_newObj_type ?_)
  refine wpAny_pure ⟨plainId_quiet F.plain_list_iadd _, codeAny_builtin F.entry_list_iadd ?_⟩
  rw [Around.under_plainId F.plain_list_iadd _]
  show wpAny _ A.in1 (Builtin.List.listExtendWith (.ref s.heap.objs.size) (.ref a) (.ref s.heap.objs.size)) _ _ _
  unfold Builtin.List.listExtendWith
  generalize hH : s.heap.push { cls := .type "list", data := .seq ([] : List Value).toArray } = H
  have ho1 : H.get? a = some (setO w es ep place) := hH ▸ Heap.get?_push_of_some _ ho
  have hHs : H.objs.size = s.heap.objs.size + 1 := by rw [← hH, Heap.size_push]
  have hL1 : H.get? s.heap.objs.size = some { cls := .type "list", data := .seq ([] : List Value).toArray } := hH ▸ Heap.get?_push_size _ rfl
  have hT1 : Shared.TypeIs { s with heap := H } (.ref a) "set" := ⟨_, ho1, rfl⟩
  refine wpAny_bind (wpAny_typeOf hT1 ?_)
  have h1 : Builtin.List.listSameRef (.ref s.heap.objs.size) (.ref a) = false := by
    simp only [Builtin.List.listSameRef, beq_eq_false_iff_ne]
    exact Nat.ne_of_gt hlt
  have h2 : (Value.type "set" == Value.type "list") = false := by decide
  have h3 : (Value.type "set" == Value.type "tuple") = false := by decide
  simp only [h1, h2, h3, Bool.or_false, Bool.false_eq_true, if_false]
  refine wpAny_bind (iter_set (s := { s with heap := H }) ho1 hf h7 ?_)
  refine wpAny_bind (wpAny_holding ?_)
  dsimp only
  have ho2 : (H.push (sit w a place es.size ep 0)).get? a = some (setO w es ep place) := Heap.get?_push_of_some _ ho1
  have hT2 : Shared.TypeIs { s with heap := H.push (sit w a place es.size ep 0) } (.ref a) "set" := ⟨_, ho2, rfl⟩
  unfold Builtin.List.listLengthHint
  refine wpAny_bind (wpAny_specialOf (name := Str.ofString "__len__") hT2 F.slot_set_len.lookup ?_)
  generalize hid : ("set.__len__" : String) = id0
  wp_delta
  rw [show splitId id0 = some ("set", "__len__") from by subst hid; decide +kernel]
  subst hid
  refine wpAny_bind (wpAny_isInstance (b := true) hT2 (by rw [isSubtype_type]; kernel_rfl) ?_)
  show wpAny _ A.in1 (typeOf (Value.ref a) >>= _) _ _ _
  refine wpAny_bind (wpAny_typeOf hT2 ?_)
  refine wpAny_pure ?_
  rw [if_pos (by decide)]
  refine wpAny_bind (wpAny_rule ?_)
  unfold Builtin.List.listTouch
  have hS2 : (H.push (sit w a place es.size ep 0)).get? s.heap.objs.size = some { cls := .type "list", data := .seq ([] : List Value).toArray } := Heap.get?_push_of_some _ hL1
  have hI2 : (H.push (sit w a place es.size ep 0)).get? H.objs.size = some (sit w a place es.size ep 0) := Heap.get?_push_size _ rfl
  have hSa : s.heap.objs.size ≠ a := Nat.ne_of_gt hlt
  have hSI : s.heap.objs.size ≠ H.objs.size := by rw [hHs]; exact Nat.ne_of_lt (Nat.lt_succ_self _)
  have hIa : a ≠ H.objs.size := by rw [hHs]; exact Nat.ne_of_lt (Nat.lt_succ_of_lt hlt)
  generalize hH2 : H.push (sit w a place es.size ep 0) = H2 at hS2 hI2 ho2
  refine wpAny_bind (wpAny_bind (wpAny_updateSeq (s := { s with heap := H2 }) hS2 rfl ?_))
  have hS3 := Heap.get?_update_self (Obj.mapSeq (fun x : Array Value => x.push Value.none)) hS2 rfl
  have sb1 := Heap.SameBut.update H2 s.heap.objs.size (Obj.mapSeq (fun x : Array Value => x.push Value.none))
  dsimp only
  generalize hH3 : H2.update s.heap.objs.size (Obj.mapSeq (fun x : Array Value => x.push Value.none)) = H3 at hS3 sb1
  refine wpAny_updateSeq (s := { s with heap := H3 }) hS3 rfl ?_
  have hS4 := Heap.get?_update_self (Obj.mapSeq (fun x : Array Value => x.pop)) hS3 rfl
  have sb2 := Heap.SameBut.update H3 s.heap.objs.size (Obj.mapSeq (fun x : Array Value => x.pop))
  dsimp only
  generalize hH4 : H3.update s.heap.objs.size (Obj.mapSeq (fun x : Array Value => x.pop)) = H4 at hS4 sb2
  have sb := sb1.trans sb2
  have hI4 : H4.get? H.objs.size = some (sit w a place es.size ep 0) := sb.extBut _ _ (Ne.symm hSI) hI2
  have ho4 : H4.get? a = some (setO w es ep place) := sb.extBut _ _ (Ne.symm hSa) ho2
  have W := set_walks (prog := prog) (w := w) (A := A.in1) (I := H.objs.size) (ep := ep) hh hIa hf h7 hbel hord
  have hSf : s.heap.objs.size ∉ [H.objs.size, a] := fun hm => by
    simp only [List.mem_cons, List.not_mem_nil, or_false] at hm
    rcases hm with hm | hm
    · exact hSI hm
    · exact hSa hm
  refine wpAny_pure ⟨plainId_quiet F.plain_extend_loop _, codeAny_extend_loopS W.toS (by rw [sizeLine_eq]; lia) _ hSf _ es.size 0 _ _ _ rfl (Nat.zero_le _) ⟨hI4, ho4⟩ hS4 (ItemsOf.nil _) fun s' acc' c' hm hS' hacc => ?_⟩
  show wpAny _ A (load s.heap.objs.size >>= _) _ _ s'
  refine wpAny_bind (wpAny_load hS' ?_)
  refine wpAny_pure ?_
  have e : s' = { s with heap := s'.heap, toks := s'.toks } := by
    have h1 := hm.gens
    have h2 := hm.drawn
    have h3 := hm.os
    dsimp only at h1 h2 h3
    cases s'
    dsimp only at h1 h2 h3 ⊢
    rw [h1, h2, h3]
  rw [e]
  refine hQ _ _ acc' (fun b ob eb => hm.heap b ob (fun hb => ?_) ?_) (Nat.le_of_lt (Heap.lt_size hS')) hacc
  · have hl := Heap.lt_size eb
    rcases List.mem_cons.mp hb with h | h
    · exact absurd hl (h ▸ Nat.lt_irrefl _)
    · rw [List.mem_singleton.mp h, hHs] at hl; exact absurd hl (Nat.not_lt.mpr (Nat.le_succ _))
  · have hb1 : b ≠ s.heap.objs.size := Nat.ne_of_lt (Heap.lt_size eb)
    refine sb.extBut _ _ hb1 ?_
    rw [← hH2]
    exact Heap.get?_push_of_some _ (hH ▸ Heap.get?_push_of_some _ eb)
end
end Mine

end
section
open PySem PySem.W PySem.W.X PyProof.Rows PySem.Calls PySem.Spec PyProof.V
open PySem.Sem (wp)
namespace Mine
section
variable {prog : Program} {w : World} {A : Around} {E : Value → Shared → Prop} {s : Shared} {a I : Addr} {es : Array (Int × Value)} {ep : Nat} {place : Array Nat} {h₀ : Heap} {L : Addr} {m : Str → Option Value} {news : Led}
theorem sorted_set {ns : List Int} {Q : Value → Shared → Prop} (F : Fr h₀ L s.heap m) (N : News h₀ L s.heap news) (hh : A.handled = none) (ho : s.heap.get? a = some (setO w es ep place)) (hf : place.size = es.size) (h7 : place.size ≤ 7) (hbel : ∀ i, i ≤ es.size → SetTable.below place (slotAt place i) = i) (hord : (ordO w a es ep).size = es.size)
    (hns : ∃ ns', IntsAre ((ordO w a es ep).toList.map (·.2)) ns' ∧ ns'.Perm ns)
    (h : ∀ D vs' ns' e h' tk, Fr h₀ L h' m → News h₀ L h' ((D, W.listOf vs'.toArray e) :: news) → (∀ q ∈ news, q.1 < D) → IntsAre vs' ns' → ns'.Perm ns → ns'.Pairwise (· ≤ ·) → Q (.ref D) { s with heap := h', toks := tk }) :
    wpAny (model prog w) A (call (.builtin "sorted") [.ref a]) Q E s := by
  refine Calls.call_function_entry kind_sorted plain_sorted entry_sorted (args_sorted1 _) ?_
  unfold Builtin.«sorted»
  refine wpAny_bind (m := checkCount "sorted" 1 1 _) (wpAny_pure ?_)
  refine wpAny_bind (collect_set hh ho hf h7 hbel hord fun h1 tk acc hk hsz hacc => ?_)
  have hvs : acc.toList = (ordO w a es ep).toList.map (·.2) := by
    refine List.ext_getElem? fun i => ?_
    rw [List.getElem?_map, Array.getElem?_toList, Array.getElem?_toList]
    by_cases hi : i < acc.size
    · have e := hacc.2 i _ (Array.getElem?_eq_getElem hi)
      rw [Array.getElem?_eq_getElem hi]
      exact e.symm
    · rw [Array.getElem?_eq_none (by lia), Array.getElem?_eq_none (by rw [hord, ← hacc.1]; lia)]; rfl
  walk_at "open"
  obtain ⟨ns1, hI, hP⟩ := hns
  walk_at "shut"
  rw [← hvs] at hI
  have h64 : acc.toList.length < 64 := by rw [hvs, List.length_map, Array.length_toList, hord]; lia
  refine wpAny_bind (wpAny_newList ?_)
  have hoL : (h1.push (seqObj "list" acc.toList.toArray 0)).get? h1.objs.size = some (seqObj "list" acc.toList.toArray 0) := Heap.get?_push_size _ rfl
  refine wpAny_bind (wpAny_holding (wpAny_call_entry slot_list_sort ⟨_, hoL, rfl⟩ entry_list_sort (list_sort_tree hoL hI h64 fun out ns' a1 a2 a3 => ⟨_, rfl, ?_⟩) (args_list_sort _)))
  obtain ⟨e, he⟩ := sortedHeap_at (vs := acc.toList) (out := out) hoL
  have hkk : ∀ b o, s.heap.get? b = some o → (sortedHeap (h1.push (seqObj "list" acc.toList.toArray 0)) h1.objs.size acc.toList out).get? b = some o := fun b o eb => by
    have hb := Heap.lt_size (hk b o eb)
    rw [sortedHeap_old (Nat.ne_of_lt hb) (by rw [size_push']; exact Nat.lt_succ_of_lt hb), Heap.get?_push_ne _ _ _ (Nat.ne_of_lt hb)]
    exact hk b o eb
  exact wpAny_pure ⟨_, rfl, h _ out.toList ns' e _ tk (F.kept hkk) (N.kept_cons F hkk hsz he) (fun q hq => Nat.lt_of_lt_of_le (Heap.lt_size (N q hq).1) hsz) a1 (a2.trans hP) a3⟩
theorem perm12 {ns : List Int} (h : ns.Perm [1, 2]) (p : ns.Pairwise (· ≤ ·)) : ns = [1, 2] := h.eq_of_pairwise (fun a b _ _ h1 h2 => Int.le_antisymm h1 h2) p (by decide)
theorem perm1 {ns : List Int} (h : ns.Perm [1]) : ns = [1] := List.perm_singleton.mp h
theorem sorted_two {c1 c2 : Int} {t1 t2 : Tok} {Q : Value → Shared → Prop} (F : Fr h₀ L s.heap m) (N : News h₀ L s.heap news) (hh : A.handled = none) (ho : (a, setO w #[(c1, .int 1 t1), (c2, .int 2 t2)] ep #[1, 2]) ∈ news)
    (h : ∀ D e u1 u2 h' tk, Fr h₀ L h' m → News h₀ L h' ((D, W.listOf #[.int 1 u1, .int 2 u2] e) :: news) → (∀ q ∈ news, q.1 < D) → Q (.ref D) { s with heap := h', toks := tk }) :
    wpAny (model prog w) A (call (.builtin "sorted") [.ref a]) Q E s := by
  have hor : ordO w a #[(c1, .int 1 t1), (c2, .int 2 t2)] ep = #[(c1, .int 1 t1), (c2, .int 2 t2)] ∨ ordO w a #[(c1, .int 1 t1), (c2, .int 2 t2)] ep = #[(c2, .int 2 t2), (c1, .int 1 t1)] := by
    unfold ordO
    split
    · have e : ∀ k : Nat, k % 2 = 0 ∨ k % 2 = 1 := fun k => by lia
      unfold pickOrder
      simp only [List.size_toArray, List.length_cons, List.length_nil, Nat.zero_add]
      unfold pickOrder.go
      simp only [List.length_cons, List.length_nil, Nat.zero_add]
      rcases e (w.params.setOrder a ep 0) with q | q
      · left; rw [show (1 + 1 : Nat) = 2 from rfl, q]
        simp [pickOrder.go, Nat.mod_one]
      · right; rw [show (1 + 1 : Nat) = 2 from rfl, q]
        simp [pickOrder.go, Nat.mod_one]
    · exact .inl rfl
  refine sorted_set (ns := [1, 2]) F N hh (N _ ho).1 rfl (by simp) (fun i hi => ?_) ?_ ?_ (fun D vs' ns' e h' tk F' N' hl hI hp hs => ?_)
  · have : i = 0 ∨ i = 1 ∨ i = 2 := by
      have : i ≤ 2 := hi
      lia
    rcases this with rfl | rfl | rfl <;> decide
  · rcases hor with e | e <;> rw [e] <;> rfl
  · rcases hor with e | e <;> rw [e]
    · exact ⟨[1, 2], .cons _ _ (.cons _ _ .nil), .refl _⟩
    · exact ⟨[2, 1], .cons _ _ (.cons _ _ .nil), List.Perm.swap ..⟩
  · rw [perm12 hp hs] at hI
    walk_at "open"
    obtain ⟨u1, vs1, rfl, hI1⟩ : ∃ t vs, vs' = .int 1 t :: vs ∧ IntsAre vs [2] := by cases hI with | cons _ t h => exact ⟨t, _, rfl, h⟩
    obtain ⟨u2, vs2, rfl, hI2⟩ : ∃ t vs, vs1 = .int 2 t :: vs ∧ IntsAre vs [] := by cases hI1 with | cons _ t h => exact ⟨t, _, rfl, h⟩
    walk_at "shut"
    cases hI2
    exact h D e u1 u2 h' tk F' N' hl
theorem sorted_one {c1 : Int} {t1 : Tok} {Q : Value → Shared → Prop} (F : Fr h₀ L s.heap m) (N : News h₀ L s.heap news) (hh : A.handled = none) (ho : (a, setO w #[(c1, .int 1 t1)] ep #[1]) ∈ news)
    (h : ∀ D e u1 h' tk, Fr h₀ L h' m → News h₀ L h' ((D, W.listOf #[.int 1 u1] e) :: news) → (∀ q ∈ news, q.1 < D) → Q (.ref D) { s with heap := h', toks := tk }) :
    wpAny (model prog w) A (call (.builtin "sorted") [.ref a]) Q E s := by
  have hor : ordO w a #[(c1, .int 1 t1)] ep = #[(c1, .int 1 t1)] := by
    unfold ordO
    split
    · simp [pickOrder, pickOrder.go, Nat.mod_one]
    · rfl
  refine sorted_set (ns := [1]) F N hh (N _ ho).1 rfl (by simp) (fun i hi => ?_) ?_ ?_ (fun D vs' ns' e h' tk F' N' hl hI hp hs => ?_)
  · have : i = 0 ∨ i = 1 := by
      have : i ≤ 1 := hi
      lia
    rcases this with rfl | rfl <;> decide
  · rw [hor]
  · rw [hor]; exact ⟨[1], .cons _ _ .nil, .refl _⟩
  · rw [perm1 hp] at hI
    walk_at "open"
    obtain ⟨u1, vs1, rfl, hI1⟩ : ∃ t vs, vs' = .int 1 t :: vs ∧ IntsAre vs [] := by cases hI with | cons _ t h => exact ⟨t, _, rfl, h⟩
    walk_at "shut"
    cases hI1
    exact h D e u1 h' tk F' N' hl
end
end Mine

end
section
open PySem PySem.W PySem.W.X PyProof.Rows PySem.Calls PySem.Spec PyProof.V
open PySem.Sem (wp)
namespace Mine
theorem arr_one {α : Type} {es : Array α} (h : es.size = 1) : ∃ e, es = #[e] := by
  rcases es with ⟨l⟩
  exact (List.length_eq_one_iff.mp h).elim fun e q => ⟨e, congrArg Array.mk q⟩
theorem popped_fits {t : SetTable} (hf : t.fits 1 = true) : (t.popped 0).fits 0 = true := by
  have hf1 : t.place.size = 1 := by unfold SetTable.fits at hf; rw [Bool.and_eq_true] at hf; exact eq_of_beq hf.1
  have hf2 : t.place.size + t.dummies.size ≤ t.mask := by unfold SetTable.fits at hf; rw [Bool.and_eq_true] at hf; exact of_decide_eq_true hf.2
  have hp : t.place[0]? = some t.place[0] := Array.getElem?_eq_getElem (by rw [hf1]; decide)
  have e1 : (t.popped 0).place = SetTable.eraseAt t.place 0 := by unfold SetTable.popped SetTable.drop; rw [hp]
  have e2 : (t.popped 0).dummies = SetTable.insertAt t.dummies (SetTable.below t.dummies t.place[0]) t.place[0] := by unfold SetTable.popped SetTable.drop; rw [hp]
  have e3 : (t.popped 0).mask = t.mask := by unfold SetTable.popped SetTable.drop; rw [hp]
  unfold SetTable.fits SetTable.fill
  rw [Bool.and_eq_true]
  have z1 : (t.popped 0).place.size = 0 := by rw [e1]; simp only [SetTable.eraseAt, Array.size_append, Array.size_extract]; lia
  refine ⟨by rw [z1]; rfl, ?_⟩
  rw [z1, e2, e3]
  refine decide_eq_true ?_
  simp only [SetTable.insertAt, Array.size_append, Array.size_extract, Array.size_push]
  lia
section
variable {prog : Program} {w : World} {A : Around} {E : Value → Shared → Prop} {s : Shared} {a sa : Addr} {h₀ : Heap} {L : Addr} {m : Str → Option Value} {news : Led}
theorem ksn_new {Q : Value → Shared → Prop} (F : Fr h₀ L s.heap m) (N : News h₀ L s.heap news)
    (h : ∀ D h', Fr h₀ L h' m → News h₀ L h' ((D, setO w #[] 0 #[]) :: news) → (∀ p ∈ news, p.1 < D) → (setO w #[] 0 #[]).SetObjOf (intKind prog w) (fun _ => false) 0 → Q (.ref D) { s with heap := h' }) : wpAny (model prog w) A (call (.type "set") []) Q E s :=
  new_set (h _ _ (F.push _) (N.push F _) (fun p hp => Heap.lt_size (N p hp).1) (setObjOf_fresh _))
theorem setObj_open {so : Obj} {S : Int → Bool} {n : Nat} (hs : so.SetObjOf (intKind prog w) S n) : so.ExactSet ∧ ∃ es ep t, so.data = .set es ep t ∧ t.fits es.size = true ∧ es.size = n ∧ (∀ k, S k = true ↔ ∃ e ∈ es.toList, (intKind prog w).is k e.2 = true) :=
  ⟨hs.1, hs.2.elim fun es x => x.elim fun ep y => y.elim fun t z => ⟨es, ep, t, z.1, z.2.2.2.2, z.2.2.2.1, z.2.2.1⟩⟩
theorem ksn_truthy {so : Obj} {S : Int → Bool} {n : Nat} {Q : Bool → Shared → Prop} (N : News h₀ L s.heap news) (hm : (sa, so) ∈ news) (hs : so.SetObjOf (intKind prog w) S n) (h9 : n < 1000) (h : Q ((n : Int) != 0) { s with toks := s.toks + 1 + 1 }) :
    wpAny (model prog w) A (truthy (.ref sa)) Q E s := by
  walk_at "open"
  obtain ⟨hex, es, ep, t, hd, hf, hn, _⟩ := setObj_open hs
  walk_at "shut"
  subst hn
  exact truthy_set (N _ hm).1 hex hd hf (by lia) h
theorem ksn_popm {so : Obj} {S : Int → Bool} {n : Nat} {pl : Sem Bool} {Q : Value × List Value → Shared → Prop} (N : News h₀ L s.heap news) (hm : (sa, so) ∈ news) (hs : so.SetObjOf (intKind prog w) S n) (h : Q (.builtin "set.pop", [.ref sa]) s) :
    wpAny (model prog w) A (getMethod (.ref sa) "pop" pl) Q E s := method_pop (N _ hm).1 hs.1 h
theorem ksn_pop {so : Obj} {S : Int → Bool} {x : Int} {g : Obj → Led} {Q : Value → Shared → Prop} (F : Fr h₀ L s.heap m) (N : News h₀ L s.heap news) (U : UpdF sa so news g) (hs : so.SetObjOf (intKind prog w) (fun k => S k || decide (k = x)) 1)
    (h : ∀ h' so' t d, Fr h₀ L h' m → News h₀ L h' (g so') → so'.SetObjOf (intKind prog w) (fun _ => false) 0 → Q (.int x t) { s with heap := h', drawn := d }) :
    wpAny (model prog w) A (call (.builtin "set.pop") [.ref sa]) Q E s := by
  walk_at "open"
  obtain ⟨own, rest, rfl, hg, h1, h2⟩ := U.split
  walk_at "shut"
  have hm := N _ (List.mem_append_right _ (.head _))
  walk_at "open"
  obtain ⟨hex, es, ep, t, hd, hf, hn, hmem⟩ := setObj_open hs
  walk_at "shut"
  obtain ⟨e, rfl⟩ := arr_one hn
  have hx : (intKind prog w).is x e.2 = true := by
    walk_at "open"
    obtain ⟨e', he', hk⟩ := (hmem x).mp (by simp)
    walk_at "shut"
    simp only [List.mem_singleton] at he'
    rw [← he']; exact hk
  obtain ⟨tk, hv⟩ := Value.isInt_shape hx
  refine pop_one hm.1 hex hd hf rfl fun d => ?_
  rw [hv]
  have ho' : (s.heap.update sa (Obj.putSet #[] (t.popped 0))).get? sa = some (Obj.putSet #[] (t.popped 0) so) := Heap.get?_update_self _ hm.1 (by obtain ⟨c, dd, da, sl⟩ := so; simp only at hd; subst hd; rfl)
  have hsb := Heap.SameBut.update s.heap sa (Obj.putSet #[] (t.popped 0))
  have hso : (Obj.putSet #[] (t.popped 0) so).SetObjOf (intKind prog w) (fun _ => false) 0 := by
    walk_at "open"
    obtain ⟨c, dd, da, sl⟩ := so
    walk_at "shut"
    simp only at hd
    subst hd
    refine ⟨⟨hex.1, hex.2.1, hex.2.2⟩, #[], ep + 1, _, rfl, fun e he => by simp at he, fun k => by simp, rfl, popped_fits hf⟩
  exact h _ _ tk d (F.change hsb hm.2.1 hm.2.2) (hg _ ▸ N.setIn h1 h2 hsb ho') hso
theorem setO_fits {es : Array (Int × Value)} {place : Array Nat} (w : World) (hf : place.size = es.size) (h7 : place.size ≤ 7) : SetTable.fits { mask := 7, place := place, dummies := #[], finger := 0, led := !w.params.followText "set-order", moves := 0, plain := true } es.size = true := by
  simp only [SetTable.fits, hf, BEq.rfl, Bool.true_and, decide_eq_true_eq, SetTable.fill]
  rw [hf] at h7
  simpa using h7
theorem setO_empty : (setO w #[] 0 #[]).SetObjOf (intKind prog w) (fun _ => false) 0 := setObjOf_fresh _
theorem setO_one {x : Int} {tk : Tok} {ep p : Nat} : (setO w #[(hashInt x, .int x tk)] ep #[p]).SetObjOf (intKind prog w) (fun k => (fun _ => false) k || decide (k = x)) 1 :=
  ⟨⟨rfl, rfl, rfl⟩, _, _, _, rfl, fun e he => by
    rw [List.mem_singleton.mp he]
    exact ⟨⟨x, intKind_is _ _ _ _, rfl⟩, rfl⟩, fun k => by
    constructor
    · intro h
      have e : k = x := by simpa using h
      exact ⟨_, List.mem_singleton.mpr rfl, by rw [e]; exact intKind_is _ _ _ _⟩
    · rintro rq1
      walk_at "open"
      obtain ⟨e, he, hk⟩ := rq1
      walk_at "shut"
      rw [List.mem_singleton.mp he] at hk
      have : k = x := (intKind prog w).inj (.int x tk) k x hk (intKind_is _ _ _ _)
      simp [this], rfl, setO_fits w rfl (by simp)⟩
theorem setO_two {x y : Int} {tk uk : Tok} {ep p q : Nat} : (setO w #[(hashInt x, .int x tk), (hashInt y, .int y uk)] ep #[p, q]).SetObjOf (intKind prog w) (fun k => (fun k => (fun _ => false) k || decide (k = y)) k || decide (k = x)) 2 :=
  ⟨⟨rfl, rfl, rfl⟩, _, _, _, rfl, fun e he => by
    simp only [List.mem_cons, List.not_mem_nil, or_false] at he
    rcases he with rfl | rfl
    · exact ⟨⟨x, intKind_is _ _ _ _, rfl⟩, rfl⟩
    · exact ⟨⟨y, intKind_is _ _ _ _, rfl⟩, rfl⟩, fun k => by
    constructor
    · intro h
      have e : k = y ∨ k = x := by simpa using h
      rcases e with e | e
      · exact ⟨(hashInt y, .int y uk), by simp, by rw [e]; exact intKind_is _ _ _ _⟩
      · exact ⟨(hashInt x, .int x tk), by simp, by rw [e]; exact intKind_is _ _ _ _⟩
    · rintro rq1
      walk_at "open"
      obtain ⟨e, he, hk⟩ := rq1
      walk_at "shut"
      simp only [List.mem_cons, List.not_mem_nil, or_false] at he
      rcases he with rfl | rfl
      · have : k = x := (intKind prog w).inj (.int x tk) k x hk (intKind_is _ _ _ _)
        simp [this]
      · have : k = y := (intKind prog w).inj (.int y uk) k y hk (intKind_is _ _ _ _)
        simp [this], rfl, setO_fits w rfl (by simp)⟩
theorem ksn_add {x : Int} {tk : Tok} {ep : Nat} {es es1 : Array (Int × Value)} {place place1 : Array Nat} {g : Obj → Led} {Q : Value → Shared → Prop} (F : Fr h₀ L s.heap m) (N : News h₀ L s.heap news)
    (U : UpdF sa (setO w es ep place) news g) (hf : place.size = es.size) (h7 : place.size ≤ 7) (hel : ElemsOf (intKind prog w) es.toList) (hni : es.toList.findIdx? (fun e => (intKind prog w).is x e.2) = none)
    (hL : layNew { mask := 7, place := place, dummies := #[], finger := 0, led := !w.params.followText "set-order", moves := 0, plain := true } es (hashInt x) (.int x tk) = (es1, { mask := 7, place := place1, dummies := #[], finger := 0, led := !w.params.followText "set-order", moves := 0, plain := true }, false, false))
    (h3 : place1.size ≤ 3) (h31 : es1.size ≤ 3)
    (h : ∀ h', Fr h₀ L h' m → News h₀ L h' (g (setO w es1 (ep + 1) place1)) → Q .none { s with heap := h', toks := s.toks + 1 }) :
    wpAny (model prog w) A (call (.builtin "set.add") [.ref sa, .int x tk]) Q E s := by
  walk_at "open"
  obtain ⟨own, rest, rfl, hg, h1, h2⟩ := U.split
  walk_at "shut"
  have hm := N _ (List.mem_append_right _ (.head _))
  refine add_new hm.1 ⟨rfl, rfl, rfl⟩ rfl (setO_fits w hf h7) (by unfold scanBound; lia) hel hni hL rfl ?_ (by rw [sizeLine_eq]; lia) ?_
  · simp only [Bool.not_false, Bool.true_and, SetTable.tooFull, SetTable.fill]
    exact decide_eq_false (by simp; lia)
  · have hsb := Heap.SameBut.update s.heap sa (Obj.putSet es1 { mask := 7, place := place1, dummies := #[], finger := 0, led := !w.params.followText "set-order", moves := 0, plain := true })
    have ho' := Heap.get?_update_self (Obj.putSet es1 { mask := 7, place := place1, dummies := #[], finger := 0, led := !w.params.followText "set-order", moves := 0, plain := true }) hm.1 rfl
    rw [show Obj.putSet es1 { mask := 7, place := place1, dummies := #[], finger := 0, led := !w.params.followText "set-order", moves := 0, plain := true } (setO w es ep place) = setO w es1 (ep + 1) place1 from rfl] at ho'
    exact h _ (F.change hsb hm.2.1 hm.2.2) (hg _ ▸ N.setIn h1 h2 hsb ho')
theorem lay1 (w : World) (tk : Tok) : layNew { mask := 7, place := #[], dummies := #[], finger := 0, led := !w.params.followText "set-order", moves := 0, plain := true } #[] (hashInt 1) (.int 1 tk) = (#[(hashInt 1, .int 1 tk)], { mask := 7, place := #[1], dummies := #[], finger := 0, led := !w.params.followText "set-order", moves := 0, plain := true }, false, false) := by rfl
theorem lay2 (w : World) (tk : Tok) : layNew { mask := 7, place := #[], dummies := #[], finger := 0, led := !w.params.followText "set-order", moves := 0, plain := true } #[] (hashInt 2) (.int 2 tk) = (#[(hashInt 2, .int 2 tk)], { mask := 7, place := #[2], dummies := #[], finger := 0, led := !w.params.followText "set-order", moves := 0, plain := true }, false, false) := by rfl
theorem lay21 (w : World) (tk uk : Tok) : layNew { mask := 7, place := #[2], dummies := #[], finger := 0, led := !w.params.followText "set-order", moves := 0, plain := true } #[(hashInt 2, .int 2 uk)] (hashInt 1) (.int 1 tk) = (#[(hashInt 1, .int 1 tk), (hashInt 2, .int 2 uk)], { mask := 7, place := #[1, 2], dummies := #[], finger := 0, led := !w.params.followText "set-order", moves := 0, plain := true }, false, false) := by kernel_rfl
theorem ksn_add1 {tk : Tok} {ep : Nat} {g : Obj → Led} {Q : Value → Shared → Prop} (F : Fr h₀ L s.heap m) (N : News h₀ L s.heap news) (U : UpdF sa (setO w #[] ep #[]) news g)
    (h : ∀ h', Fr h₀ L h' m → News h₀ L h' (g (setO w #[(hashInt 1, .int 1 tk)] (ep + 1) #[1])) → (setO w #[(hashInt 1, .int 1 tk)] (ep + 1) #[1]).SetObjOf (intKind prog w) (fun k => (fun _ => false) k || decide (k = 1)) 1 → Q .none { s with heap := h', toks := s.toks + 1 }) : wpAny (model prog w) A (call (.builtin "set.add") [.ref sa, .int 1 tk]) Q E s :=
  ksn_add F N U rfl (by simp) (fun e he => by simp at he) rfl (lay1 w tk) (by simp) (by simp) fun h' F' N' => h h' F' N' setO_one
theorem ksn_add2 {tk : Tok} {ep : Nat} {g : Obj → Led} {Q : Value → Shared → Prop} (F : Fr h₀ L s.heap m) (N : News h₀ L s.heap news) (U : UpdF sa (setO w #[] ep #[]) news g)
    (h : ∀ h', Fr h₀ L h' m → News h₀ L h' (g (setO w #[(hashInt 2, .int 2 tk)] (ep + 1) #[2])) → (setO w #[(hashInt 2, .int 2 tk)] (ep + 1) #[2]).SetObjOf (intKind prog w) (fun k => (fun _ => false) k || decide (k = 2)) 1 → Q .none { s with heap := h', toks := s.toks + 1 }) : wpAny (model prog w) A (call (.builtin "set.add") [.ref sa, .int 2 tk]) Q E s :=
  ksn_add F N U rfl (by simp) (fun e he => by simp at he) rfl (lay2 w tk) (by simp) (by simp) fun h' F' N' => h h' F' N' setO_one
theorem ksn_add21 {tk uk : Tok} {ep : Nat} {g : Obj → Led} {Q : Value → Shared → Prop} (F : Fr h₀ L s.heap m) (N : News h₀ L s.heap news) (U : UpdF sa (setO w #[(hashInt 2, .int 2 uk)] ep #[2]) news g)
    (h : ∀ h', Fr h₀ L h' m → News h₀ L h' (g (setO w #[(hashInt 1, .int 1 tk), (hashInt 2, .int 2 uk)] (ep + 1) #[1, 2])) → (setO w #[(hashInt 1, .int 1 tk), (hashInt 2, .int 2 uk)] (ep + 1) #[1, 2]).SetObjOf (intKind prog w) (fun k => (fun k => (fun _ => false) k || decide (k = 2)) k || decide (k = 1)) 2 → Q .none { s with heap := h', toks := s.toks + 1 }) : wpAny (model prog w) A (call (.builtin "set.add") [.ref sa, .int 1 tk]) Q E s :=
  ksn_add F N U rfl (by simp) (fun e he => by rw [List.mem_singleton.mp he]; exact ⟨⟨2, intKind_is _ _ _ _, rfl⟩, rfl⟩) rfl (lay21 w tk uk) (by simp) (by simp) fun h' F' N' => h h' F' N' setO_two
end
end Mine

end
section
open PySem PySem.W PySem.W.X PyProof.Rows PySem.Calls PySem.Spec PyProof.V
open PySem.Sem (wp)
namespace Mine
noncomputable def lit (l : Addr) (i : Nat) : Obj := { cls := .type "list_iterator", data := .fields #[.ref l, .int i 0] }
section
variable {prog : Program} {w : World} {A : Around} {E : Value → Shared → Prop} {s : Shared} {a l I : Addr} {h₀ : Heap} {L : Addr} {m : Str → Option Value} {news : Led}
theorem ksn_iter {xs : Array Value} {n : Nat} {Q : Value → Shared → Prop} (F : Fr h₀ L s.heap m) (N : News h₀ L s.heap news) (hp : (l, W.listOf xs n) ∈ news)
    (h : ∀ I h', Fr h₀ L h' m → News h₀ L h' ((I, lit l 0) :: news) → (∀ p ∈ news, p.1 < I) → Q (.ref I) { s with heap := h' }) :
    wpAny (model prog w) A (call (.builtin "iter") [.ref l]) Q E s := by
  refine call_function_entry (by decide +kernel) (by decide +kernel) PySem.W.kdk_entry_iter (PySem.W.kdk_args_iter _) ?_
  unfold Builtin.«iter»
  refine wpAny_bind (m := someArgs "iter" 1 2 _) (wpAny_of_eq (a := [Value.ref l]) (by first | rfl | kernel_rfl!) ?_)
  show wpAny _ _ (pyIter (.ref l) >>= _) _ _ _
  refine wpAny_bind (wpAny_pyIter_list ⟨_, (N _ hp).1, rfl, n, rfl⟩ ?_)
  exact wpAny_pure ⟨_, rfl, h _ _ (F.push _) (News.push F N _ rfl) (fun q hq => Heap.lt_size (N q hq).1)⟩
theorem ksn_next {xs : Array Value} {n i : Nat} {x : Value} {g : Obj → Led} {Q : Value → Shared → Prop} (F : Fr h₀ L s.heap m) (N : News h₀ L s.heap news) (U : UpdF I (lit l i) news g) (hp : (l, W.listOf xs n) ∈ news) (hx0 : xs.toList[i]? = some x)
    (h : ∀ h', Fr h₀ L h' m → News h₀ L h' (g (lit l (i + 1))) → Q x { s with heap := h' }) :
    wpAny (model prog w) A (call (.builtin "next") [.ref I]) Q E s := by
  have hx : xs[i]? = some x := by rw [← Array.getElem?_toList]; exact hx0
  walk_at "open"
  obtain ⟨own, rest, rfl, hg, h1, h2⟩ := U.split
  walk_at "shut"
  have hm := N _ (List.mem_append_right _ (.head _))
  have hit : s.heap.IsListIter I l i := ⟨_, hm.1, rfl, rfl⟩
  have hl : s.heap.get? l = some (W.listOf xs n) := (N _ hp).1
  refine call_function_entry (by decide +kernel) (by decide +kernel) PySem.W.kdk_entry_next (PySem.W.kdk_args_next _) ?_
  unfold Builtin.«next»
  refine wpAny_bind (m := someArgs "next" 1 2 _) (wpAny_of_eq (a := [Value.ref I]) (by first | rfl | kernel_rfl!) ?_)
  dsimp only
  refine wpAny_bind (wpAny_specialOf (name := Str.ofString "__next__") hit.typeIs slot_listiter_next.lookup ?_)
  refine wpAny_ite_split (fun hab => absurd hab (by decide)) (fun _ => ?_)
  refine wpAny_bind (wpAny_callSpecial?_slot (name := Str.ofString "__next__") hit.typeIs slot_listiter_next (wpAny_call_entry slot_listiter_next hit.typeIs entry_listiter_next ?_ (args_listiter_next _)))
  show wpAny _ _ (field (.ref I) 0 >>= _) _ _ s
  refine wpAny_bind (wpAny_field hm.1 rfl (x := .ref l) rfl ?_)
  show wpAny _ _ (if (Value.ref l == Value.none) = true then _ else _) _ _ s
  rw [if_neg (show ¬ ((Value.ref l == Value.none) = true) from Bool.false_ne_true)]
  show wpAny _ _ (field (.ref I) 1 >>= _) _ _ s
  refine wpAny_bind (wpAny_field hm.1 rfl (x := .int i 0) rfl ?_)
  show wpAny _ _ (seqItems? (.ref l) >>= _) _ _ s
  refine wpAny_bind (wpAny_seqItems hl rfl ?_)
  simp only [Int.toNat_natCast, hx]
  refine wpAny_bind (wpAny_setField hm.1 rfl (by simp) (wpAny_pure ⟨x, rfl, ?_⟩))
  have hsb := Heap.SameBut.update s.heap I (Obj.mapFields (·.setIfInBounds 1 (rawInt ((i : Int) + 1))))
  have ho' := Heap.get?_update_self (Obj.mapFields (·.setIfInBounds 1 (rawInt ((i : Int) + 1)))) hm.1 (Obj.isFreed_of_fields (Obj.data_mapFields rfl _))
  rw [show Obj.mapFields (·.setIfInBounds 1 (rawInt ((i : Int) + 1))) (lit l i) = lit l (i + 1) from rfl] at ho'
  exact wpAny_pure ⟨_, rfl, h _ (F.change hsb hm.2.1 hm.2.2) (hg _ ▸ N.setIn h1 h2 hsb ho')⟩
end
section
variable {prog : Program} {w : World} {A : Around} {E : Value → Shared → Prop} {s : Shared} {env : Env} {g : Heap} {x : Str} {body : List Stmt} {Q : Flow → Shared → Prop} {m : Str → Option Value} {news : Led}
theorem it_rest {l I : Addr} {vs : List Value} {k i0 n : Nat} (hh : A.handled = none) (J : Nat → (Str → Option Value) → Led → Prop) (hn : i0 + n = vs.length)
    (hl : ∀ i m' n', J i m' n' → (l, W.listOf vs.toArray k) ∈ n')
    (F : Fr g env.locals s.heap m) (N : News g env.locals s.heap ((I, lit l i0) :: news)) (hoff : ∀ p ∈ news, p.1 ≠ I) (h0 : J 0 m news)
    (step : ∀ i v m₁ news₁ h tk oI, vs[i0 + i]? = some v → J i m₁ news₁ → (∀ p ∈ news₁, p.1 ≠ I) → Fr g env.locals h (fun y => if y = x then some v else m₁ y) → News g env.locals h ((I, oI) :: news₁) →
      wpAny (model prog w) A (execs body env) (StepP g env.locals I oI (J (i + 1)) { s with heap := h, toks := tk } Q) E { s with heap := h, toks := tk })
    (done : ∀ h tk m₁ news₁, J n m₁ news₁ → Fr g env.locals h m₁ → News g env.locals h news₁ → Q .next { s with heap := h, toks := tk }) :
    wpAny (model prog w) A (pyIter (.ref I)) (fun it s₂ => LoopAtV prog w A g env x body Q E it s₂) E s := by
  have hlm := hl _ _ _ h0
  have hI := N _ (List.mem_cons_self ..)
  have hli := N _ (List.mem_cons_of_mem _ hlm)
  have hne : l ≠ I := hoff _ hlm
  have hit : s.heap.IsListIter I l i0 := ⟨_, hI.1, rfl, rfl⟩
  have hls : s.heap.IsList l vs.toArray := ⟨_, hli.1, rfl, k, rfl⟩
  have W0 := Walks.list (prog := prog) (w := w) hh I l hne vs.toArray
  have W1 : Walks prog w A I [I, l] [I] n (fun i v => vs.toArray[i0 + i]? = some v) (fun i h => h.IsListIter I l (i0 + i) ∧ h.IsList l vs.toArray) :=
    { sub := W0.sub
      frame := fun i h h' st hk => W0.frame (i0 + i) h h' st hk
      item := fun i s Q E hi st hQ => W0.item (i0 + i) s Q E (by simp; lia) st fun v h' tk hP hst hk => hQ v h' tk hP hst hk
      done := fun s Q E st hQ => W0.done s Q E (by have e : vs.toArray.size = i0 + n := by simp; lia
                                                   rw [e]; exact st) hQ
      self := fun i s Q E st hQ => W0.self (i0 + i) s Q E st hQ }
  refine wpAny_pyIter_listiter hit ?_
  refine loop_on (ext := [l]) W1 hI.2.2 hI.2.1 (fun b hb => List.mem_singleton.mp hb ▸ hli.2.1) (fun i h hs => by obtain ⟨⟨o, ho, _⟩, _⟩ := hs; exact ⟨o, ho⟩) J (fun b hb => ?_)
    ⟨hit, hls⟩ F (fun p hp => N p (List.mem_cons_of_mem _ hp)) hoff h0 (fun i v m₁ news₁ h tk oI hi hP hJ hn F₁ N₁ => step i v m₁ news₁ h tk oI (by simpa using hP) hJ hn F₁ N₁) (fun h tk m₁ news₁ hJ F₁ N₁ => done h tk m₁ news₁ hJ F₁ N₁)
  rw [List.mem_singleton.mp hb]
  exact ⟨_, fun _ _ _ => trivial, .inr hl⟩
end
end Mine

end
section
open PySem PySem.Calls PyProof.Rows PySem.W
namespace Mine
noncomputable def env1 : Env := { scope := PySem.Challenge.pw_to0079_01.main.scope, locals := mainNs, globals := mainNs, cells := [], code := .ref 13, frame := some 14 }
noncomputable def nthS : List Stmt → Nat → Stmt
  | [], _ => default
  | s :: _, 0 => s
  | _ :: r, n + 1 => nthS r n
noncomputable def stm (i : Nat) : Stmt := nthS PySem.Challenge.pw_to0079_01.main.body i
noncomputable def onFn {α : Type} (st : Stmt) (d : α) (f : Str → Arguments → List Stmt → Scope → α) : α := if h : st.ctorIdx = 0 then Stmt.FunctionDef.elim (motive_2 := fun _ => α) st h (fun n ps b _ _ _ sc _ _ _ => f n ps b sc) else d
noncomputable def inCls (s : Stmt) : List Stmt := if h : s.ctorIdx = 2 then Stmt.ClassDef.elim (motive_2 := fun _ => List Stmt) s h (fun _ _ _ b _ _ _ _ _ _ _ => b) else []
noncomputable def isDef (n : Str) (s : Stmt) : Bool := onFn s false fun m _ _ _ => m == n
noncomputable def stmC (n : String) : Stmt := ((inCls (stm 10)).find? (isDef (Str.ofString n))).getD default
noncomputable def fnObj (st : Stmt) (pm code : Value) : Obj := onFn st default fun n ps b sc => { cls := .type "function", data := .func { name := n, qualname := n, params := ps, body := .stmts b, scope := sc, globals := 3, closure := [], defaults := .none, kwdefaults := .none, pyModule := pm, code := code } }
noncomputable def cdObj (st : Stmt) : Obj := onFn st default fun n ps b sc => { cls := .none, data := .func { name := n, qualname := n, params := ps, body := .stmts b, scope := sc, globals := 0, closure := [], defaults := .none, kwdefaults := .none } }
noncomputable def fnObjQ (st : Stmt) (q : String) (df pm code : Value) : Obj := onFn st default fun n ps b sc => { cls := .type "function", data := .func { name := n, qualname := Str.ofString q, params := ps, body := .stmts b, scope := sc, globals := 3, closure := [], defaults := df, kwdefaults := .none, pyModule := pm, code := code } }
noncomputable def cdObjQ (st : Stmt) (q : String) : Obj := onFn st default fun n ps b sc => { cls := .none, data := .func { name := n, qualname := Str.ofString q, params := ps, body := .stmts b, scope := sc, globals := 0, closure := [], defaults := .none, kwdefaults := .none } }
noncomputable def t3 (P : Params) : Obj := Obj.mk (Value.type "dict") none (Data.dict #[DictEntry.mk (PyData.keyHash P (Str.ofString "__name__")) (Value.str (Str.ofString "__name__") 165) (Value.str (Str.ofString "cpy313.stringprep") 344), DictEntry.mk (PyData.keyHash P (Str.ofString "__doc__")) (Value.str (Str.ofString "__doc__") 166) Value.none, DictEntry.mk (PyData.keyHash P (Str.ofString "__package__")) (Value.str (Str.ofString "__package__") 167) Value.none, DictEntry.mk (PyData.keyHash P (Str.ofString "__loader__")) (Value.str (Str.ofString "__loader__") 168) (Value.builtin "__main__.__loader__#opaque"), DictEntry.mk (PyData.keyHash P (Str.ofString "__spec__")) (Value.str (Str.ofString "__spec__") 169) Value.none, DictEntry.mk (PyData.keyHash P (Str.ofString "__annotations__")) (Value.str (Str.ofString "__annotations__") 170) (Value.ref 6), DictEntry.mk (PyData.keyHash P (Str.ofString "__builtins__")) (Value.str (Str.ofString "__builtins__") 171) (Value.ref 4), DictEntry.mk (PyData.keyHash P (Str.ofString "__file__")) (Value.str (Str.ofString "__file__") 173) (Value.str (Str.ofString "/claim/cut.py") 172), DictEntry.mk (PyData.keyHash P (Str.ofString "__cached__")) (Value.str (Str.ofString "__cached__") 174) Value.none, DictEntry.mk (PyData.keyHash P (Str.ofString "compute_powers")) (Value.str (Str.ofString "compute_powers") 208) (Value.ref 22), DictEntry.mk (PyData.keyHash P (Str.ofString "_DIV_LIMIT")) (Value.str (Str.ofString "_DIV_LIMIT") 210) (Value.int 4000 209), DictEntry.mk (PyData.keyHash P (Str.ofString "_div2n1n")) (Value.str (Str.ofString "_div2n1n") 227) (Value.ref 29), DictEntry.mk (PyData.keyHash P (Str.ofString "_div3n2n")) (Value.str (Str.ofString "_div3n2n") 241) (Value.ref 36), DictEntry.mk (PyData.keyHash P (Str.ofString "_int2digits")) (Value.str (Str.ofString "_int2digits") 252) (Value.ref 43), DictEntry.mk (PyData.keyHash P (Str.ofString "_digits2int")) (Value.str (Str.ofString "_digits2int") 263) (Value.ref 50), DictEntry.mk (PyData.keyHash P (Str.ofString "rgb_to_hsv")) (Value.str (Str.ofString "rgb_to_hsv") 283) (Value.ref 57), DictEntry.mk (PyData.keyHash P (Str.ofString "_netrclex")) (Value.str (Str.ofString "_netrclex") 343) (Value.ref 95)] 17) #[]
noncomputable def t12 (P : Params) : Obj := Obj.mk Value.none none (Data.fields #[Value.int 2 0, Value.int 0 0, Value.ref 21, Value.int 44 0, Value.int 0 0, Value.ref 28, Value.int 60 0, Value.int 0 0, Value.ref 35, Value.int 70 0, Value.int 0 0, Value.ref 42, Value.int 86 0, Value.int 0 0, Value.ref 49, Value.int 96 0, Value.int 0 0, Value.ref 56, Value.int 116 0, Value.int 0 0, Value.ref 63]) #[]
noncomputable def u3 (P : Params) : Obj := Obj.mk (Value.type "dict") none (Data.dict #[DictEntry.mk (PyData.keyHash P (Str.ofString "__name__")) (Value.str (Str.ofString "__name__") 165) (Value.str (Str.ofString "cpy313.stringprep") 344), DictEntry.mk (PyData.keyHash P (Str.ofString "__doc__")) (Value.str (Str.ofString "__doc__") 166) Value.none, DictEntry.mk (PyData.keyHash P (Str.ofString "__package__")) (Value.str (Str.ofString "__package__") 167) Value.none, DictEntry.mk (PyData.keyHash P (Str.ofString "__loader__")) (Value.str (Str.ofString "__loader__") 168) (Value.builtin "__main__.__loader__#opaque"), DictEntry.mk (PyData.keyHash P (Str.ofString "__spec__")) (Value.str (Str.ofString "__spec__") 169) Value.none, DictEntry.mk (PyData.keyHash P (Str.ofString "__annotations__")) (Value.str (Str.ofString "__annotations__") 170) (Value.ref 6), DictEntry.mk (PyData.keyHash P (Str.ofString "__builtins__")) (Value.str (Str.ofString "__builtins__") 171) (Value.ref 4), DictEntry.mk (PyData.keyHash P (Str.ofString "__file__")) (Value.str (Str.ofString "__file__") 173) (Value.str (Str.ofString "/claim/cut.py") 172), DictEntry.mk (PyData.keyHash P (Str.ofString "__cached__")) (Value.str (Str.ofString "__cached__") 174) Value.none, DictEntry.mk (PyData.keyHash P (Str.ofString "compute_powers")) (Value.str (Str.ofString "compute_powers") 208) (Value.ref 22), DictEntry.mk (PyData.keyHash P (Str.ofString "_DIV_LIMIT")) (Value.str (Str.ofString "_DIV_LIMIT") 210) (Value.int 4000 209), DictEntry.mk (PyData.keyHash P (Str.ofString "_div2n1n")) (Value.str (Str.ofString "_div2n1n") 227) (Value.ref 29), DictEntry.mk (PyData.keyHash P (Str.ofString "_div3n2n")) (Value.str (Str.ofString "_div3n2n") 241) (Value.ref 36), DictEntry.mk (PyData.keyHash P (Str.ofString "_int2digits")) (Value.str (Str.ofString "_int2digits") 252) (Value.ref 43), DictEntry.mk (PyData.keyHash P (Str.ofString "_digits2int")) (Value.str (Str.ofString "_digits2int") 263) (Value.ref 50), DictEntry.mk (PyData.keyHash P (Str.ofString "rgb_to_hsv")) (Value.str (Str.ofString "rgb_to_hsv") 283) (Value.ref 57), DictEntry.mk (PyData.keyHash P (Str.ofString "_netrclex")) (Value.str (Str.ofString "_netrclex") 343) (Value.ref 95), DictEntry.mk (PyData.keyHash P (Str.ofString "b1_set")) (Value.str (Str.ofString "b1_set") 405) (Value.ref 107), DictEntry.mk (PyData.keyHash P (Str.ofString "in_table_b1")) (Value.str (Str.ofString "in_table_b1") 412) (Value.ref 117)] 19) #[]
noncomputable def u11 (P : Params) : Obj := Obj.mk (Value.type "tuple") none (Data.seq #[]) #[]
noncomputable def u12 (P : Params) : Obj := Obj.mk Value.none none (Data.fields #[Value.int 2 0, Value.int 0 0, Value.ref 21, Value.int 44 0, Value.int 0 0, Value.ref 28, Value.int 60 0, Value.int 0 0, Value.ref 35, Value.int 70 0, Value.int 0 0, Value.ref 42, Value.int 86 0, Value.int 0 0, Value.ref 49, Value.int 96 0, Value.int 0 0, Value.ref 56, Value.int 116 0, Value.int 0 0, Value.ref 63, Value.int 161 0, Value.int 0 0, Value.ref 116]) #[]
noncomputable def u13 (P : Params) : Obj := Obj.mk (Value.type "code") none (Data.fields #[Value.str (Str.ofString "<module>") 182, Value.str (Str.ofString "<module>") 183, Value.str (Str.ofString "/claim/cut.py") 184, Value.int 1 0, Value.int 0 0, Value.int 0 0, Value.int 0 0, Value.int 0 0, Value.ref 11, Value.bool false, Value.int 181 0, Value.ref 12, Value.none, Value.none, Value.none, Value.none, Value.int 185 0, Value.int 1 0, Value.str (Str.ofString "/claim/cut.py") 186]) #[]
noncomputable def u14 (P : Params) : Obj := Obj.mk (Value.type "frame") none Data.plain #[some (Value.ref 13), some (Value.ref 3), some (Value.ref 3), none, some (Value.str (Str.ofString "__main__") 164), none, some (Value.ref 0)]
noncomputable def u15 (P : Params) : Obj := Obj.mk (Value.type "tuple") none (Data.seq #[Value.bool false]) #[]
noncomputable def u16 (P : Params) : Obj := Obj.mk (Value.type "tuple") none (Data.seq #[]) #[]
noncomputable def u17 (P : Params) : Obj := Obj.mk Value.none none (Data.fields #[]) #[]
noncomputable def u18 (P : Params) : Obj := Obj.mk (Value.type "tuple") none (Data.seq #[Value.str (Str.ofString "w") 192, Value.str (Str.ofString "base") 193, Value.str (Str.ofString "more_than") 194, Value.str (Str.ofString "show") 195, Value.str (Str.ofString "seen") 196, Value.str (Str.ofString "need") 197, Value.str (Str.ofString "ws") 198, Value.str (Str.ofString "lo") 199, Value.str (Str.ofString "d") 200, Value.str (Str.ofString "it") 201, Value.str (Str.ofString "first") 202, Value.str (Str.ofString "this") 203, Value.str (Str.ofString "hi") 204, Value.str (Str.ofString "sq") 205]) #[]
noncomputable def u19 (P : Params) : Obj := Obj.mk (Value.type "tuple") none (Data.seq #[]) #[]
noncomputable def u20 (P : Params) : Obj := cdObj (stm 1)
noncomputable def u21 (P : Params) : Obj := Obj.mk (Value.type "code") none (Data.fields #[Value.str (Str.ofString "compute_powers") 189, Value.str (Str.ofString "compute_powers") 190, Value.str (Str.ofString "/claim/cut.py") 191, Value.int 2 0, Value.int 4 0, Value.int 0 0, Value.int 0 0, Value.int 3 0, Value.ref 16, Value.bool true, Value.int 181 0, Value.ref 17, Value.none, Value.ref 18, Value.ref 19, Value.ref 20, Value.int 206 0, Value.int 2 0, Value.str (Str.ofString "/claim/cut.py") 207]) #[]
noncomputable def u22 (P : Params) : Obj := fnObjQ (stm 1) "compute_powers" (Value.ref 15) (Value.str (Str.ofString "cpy313._pylong") 187) (Value.ref 21)
noncomputable def u23 (P : Params) : Obj := Obj.mk (Value.type "tuple") none (Data.seq #[]) #[]
noncomputable def u24 (P : Params) : Obj := Obj.mk Value.none none (Data.fields #[]) #[]
noncomputable def u25 (P : Params) : Obj := Obj.mk (Value.type "tuple") none (Data.seq #[Value.str (Str.ofString "a") 214, Value.str (Str.ofString "b") 215, Value.str (Str.ofString "n") 216, Value.str (Str.ofString "pad") 217, Value.str (Str.ofString "half_n") 218, Value.str (Str.ofString "mask") 219, Value.str (Str.ofString "b1") 220, Value.str (Str.ofString "b2") 221, Value.str (Str.ofString "q1") 222, Value.str (Str.ofString "r") 223, Value.str (Str.ofString "q2") 224]) #[]
noncomputable def u26 (P : Params) : Obj := Obj.mk (Value.type "tuple") none (Data.seq #[]) #[]
noncomputable def u27 (P : Params) : Obj := cdObj (stm 3)
noncomputable def u28 (P : Params) : Obj := Obj.mk (Value.type "code") none (Data.fields #[Value.str (Str.ofString "_div2n1n") 211, Value.str (Str.ofString "_div2n1n") 212, Value.str (Str.ofString "/claim/cut.py") 213, Value.int 44 0, Value.int 3 0, Value.int 0 0, Value.int 0 0, Value.int 3 0, Value.ref 23, Value.bool true, Value.int 181 0, Value.ref 24, Value.none, Value.ref 25, Value.ref 26, Value.ref 27, Value.int 225 0, Value.int 44 0, Value.str (Str.ofString "/claim/cut.py") 226]) #[]
noncomputable def u29 (P : Params) : Obj := fnObj (stm 3) (Value.str (Str.ofString "cpy313._pylong") 187) (Value.ref 28)
noncomputable def u30 (P : Params) : Obj := Obj.mk (Value.type "tuple") none (Data.seq #[]) #[]
noncomputable def u31 (P : Params) : Obj := Obj.mk Value.none none (Data.fields #[]) #[]
noncomputable def u32 (P : Params) : Obj := Obj.mk (Value.type "tuple") none (Data.seq #[Value.str (Str.ofString "a12") 231, Value.str (Str.ofString "a3") 232, Value.str (Str.ofString "b") 233, Value.str (Str.ofString "b1") 234, Value.str (Str.ofString "b2") 235, Value.str (Str.ofString "n") 236, Value.str (Str.ofString "q") 237, Value.str (Str.ofString "r") 238]) #[]
noncomputable def u33 (P : Params) : Obj := Obj.mk (Value.type "tuple") none (Data.seq #[]) #[]
noncomputable def u34 (P : Params) : Obj := cdObj (stm 4)
noncomputable def u35 (P : Params) : Obj := Obj.mk (Value.type "code") none (Data.fields #[Value.str (Str.ofString "_div3n2n") 228, Value.str (Str.ofString "_div3n2n") 229, Value.str (Str.ofString "/claim/cut.py") 230, Value.int 60 0, Value.int 6 0, Value.int 0 0, Value.int 0 0, Value.int 3 0, Value.ref 30, Value.bool true, Value.int 181 0, Value.ref 31, Value.none, Value.ref 32, Value.ref 33, Value.ref 34, Value.int 239 0, Value.int 60 0, Value.str (Str.ofString "/claim/cut.py") 240]) #[]
noncomputable def u36 (P : Params) : Obj := fnObj (stm 4) (Value.str (Str.ofString "cpy313._pylong") 187) (Value.ref 35)
noncomputable def u37 (P : Params) : Obj := Obj.mk (Value.type "tuple") none (Data.seq #[]) #[]
noncomputable def u38 (P : Params) : Obj := Obj.mk Value.none none (Data.fields #[]) #[]
noncomputable def u39 (P : Params) : Obj := Obj.mk (Value.type "tuple") none (Data.seq #[Value.str (Str.ofString "a") 245, Value.str (Str.ofString "n") 246]) #[]
noncomputable def u40 (P : Params) : Obj := Obj.mk (Value.type "tuple") none (Data.seq #[Value.str (Str.ofString "n") 247, Value.str (Str.ofString "a_digits") 248, Value.str (Str.ofString "inner") 249]) #[]
noncomputable def u41 (P : Params) : Obj := cdObj (stm 5)
noncomputable def u42 (P : Params) : Obj := Obj.mk (Value.type "code") none (Data.fields #[Value.str (Str.ofString "_int2digits") 242, Value.str (Str.ofString "_int2digits") 243, Value.str (Str.ofString "/claim/cut.py") 244, Value.int 70 0, Value.int 2 0, Value.int 0 0, Value.int 0 0, Value.int 3 0, Value.ref 37, Value.bool true, Value.int 181 0, Value.ref 38, Value.none, Value.ref 39, Value.ref 40, Value.ref 41, Value.int 250 0, Value.int 70 0, Value.str (Str.ofString "/claim/cut.py") 251]) #[]
noncomputable def u43 (P : Params) : Obj := fnObj (stm 5) (Value.str (Str.ofString "cpy313._pylong") 187) (Value.ref 42)
noncomputable def u44 (P : Params) : Obj := Obj.mk (Value.type "tuple") none (Data.seq #[]) #[]
noncomputable def u45 (P : Params) : Obj := Obj.mk Value.none none (Data.fields #[]) #[]
noncomputable def u46 (P : Params) : Obj := Obj.mk (Value.type "tuple") none (Data.seq #[Value.str (Str.ofString "digits") 256, Value.str (Str.ofString "n") 257]) #[]
noncomputable def u47 (P : Params) : Obj := Obj.mk (Value.type "tuple") none (Data.seq #[Value.str (Str.ofString "digits") 258, Value.str (Str.ofString "n") 259, Value.str (Str.ofString "inner") 260]) #[]
noncomputable def u48 (P : Params) : Obj := cdObj (stm 6)
noncomputable def u49 (P : Params) : Obj := Obj.mk (Value.type "code") none (Data.fields #[Value.str (Str.ofString "_digits2int") 253, Value.str (Str.ofString "_digits2int") 254, Value.str (Str.ofString "/claim/cut.py") 255, Value.int 86 0, Value.int 2 0, Value.int 0 0, Value.int 0 0, Value.int 3 0, Value.ref 44, Value.bool true, Value.int 181 0, Value.ref 45, Value.none, Value.ref 46, Value.ref 47, Value.ref 48, Value.int 261 0, Value.int 86 0, Value.str (Str.ofString "/claim/cut.py") 262]) #[]
noncomputable def u50 (P : Params) : Obj := fnObj (stm 6) (Value.str (Str.ofString "cpy313._pylong") 187) (Value.ref 49)
noncomputable def u51 (P : Params) : Obj := Obj.mk (Value.type "tuple") none (Data.seq #[]) #[]
noncomputable def u52 (P : Params) : Obj := Obj.mk Value.none none (Data.fields #[]) #[]
noncomputable def u53 (P : Params) : Obj := Obj.mk (Value.type "tuple") none (Data.seq #[Value.str (Str.ofString "r") 269, Value.str (Str.ofString "g") 270, Value.str (Str.ofString "b") 271, Value.str (Str.ofString "maxc") 272, Value.str (Str.ofString "minc") 273, Value.str (Str.ofString "rangec") 274, Value.str (Str.ofString "v") 275, Value.str (Str.ofString "s") 276, Value.str (Str.ofString "rc") 277, Value.str (Str.ofString "gc") 278, Value.str (Str.ofString "bc") 279, Value.str (Str.ofString "h") 280]) #[]
noncomputable def u54 (P : Params) : Obj := Obj.mk (Value.type "tuple") none (Data.seq #[]) #[]
noncomputable def u55 (P : Params) : Obj := cdObj (stm 8)
noncomputable def u56 (P : Params) : Obj := Obj.mk (Value.type "code") none (Data.fields #[Value.str (Str.ofString "rgb_to_hsv") 266, Value.str (Str.ofString "rgb_to_hsv") 267, Value.str (Str.ofString "/claim/cut.py") 268, Value.int 96 0, Value.int 3 0, Value.int 0 0, Value.int 0 0, Value.int 3 0, Value.ref 51, Value.bool true, Value.int 181 0, Value.ref 52, Value.none, Value.ref 53, Value.ref 54, Value.ref 55, Value.int 281 0, Value.int 96 0, Value.str (Str.ofString "/claim/cut.py") 282]) #[]
noncomputable def u57 (P : Params) : Obj := fnObj (stm 8) (Value.str (Str.ofString "cpy313.colorsys") 264) (Value.ref 56)
noncomputable def u58 (P : Params) : Obj := Obj.mk (Value.type "tuple") none (Data.seq #[]) #[]
noncomputable def u59 (P : Params) : Obj := Obj.mk (Value.type "builtin_function_or_method") none (Data.fields #[Value.builtin "type.__prepare__", Value.type "type"]) #[]
noncomputable def u60 (P : Params) : Obj := Obj.mk (Value.type "dict") none (Data.dict #[DictEntry.mk (PyData.keyHash P (Str.ofString "__module__")) (Value.str (Str.ofString "__module__") 293) (Value.str (Str.ofString "cpy313.netrc") 284), DictEntry.mk (PyData.keyHash P (Str.ofString "__qualname__")) (Value.str (Str.ofString "__qualname__") 295) (Value.str (Str.ofString "_netrclex") 294), DictEntry.mk (PyData.keyHash P (Str.ofString "__firstlineno__")) (Value.str (Str.ofString "__firstlineno__") 297) (Value.int 116 296), DictEntry.mk (PyData.keyHash P (Str.ofString "__init__")) (Value.str (Str.ofString "__init__") 305) (Value.ref 71), DictEntry.mk (PyData.keyHash P (Str.ofString "_read_char")) (Value.str (Str.ofString "_read_char") 313) (Value.ref 78), DictEntry.mk (PyData.keyHash P (Str.ofString "get_token")) (Value.str (Str.ofString "get_token") 323) (Value.ref 85), DictEntry.mk (PyData.keyHash P (Str.ofString "push_token")) (Value.str (Str.ofString "push_token") 331) (Value.ref 92), DictEntry.mk (PyData.keyHash P (Str.ofString "__static_attributes__")) (Value.str (Str.ofString "__static_attributes__") 336) (Value.ref 93)] 8) #[]
noncomputable def u61 (P : Params) : Obj := Obj.mk (Value.type "tuple") none (Data.seq #[]) #[]
noncomputable def u62 (P : Params) : Obj := Obj.mk Value.none none (Data.fields #[Value.int 118 0, Value.int 4 0, Value.ref 70, Value.int 124 0, Value.int 4 0, Value.ref 77, Value.int 130 0, Value.int 4 0, Value.ref 84, Value.int 157 0, Value.int 4 0, Value.ref 91]) #[]
noncomputable def u63 (P : Params) : Obj := Obj.mk (Value.type "code") none (Data.fields #[Value.str (Str.ofString "_netrclex") 288, Value.str (Str.ofString "_netrclex") 289, Value.str (Str.ofString "/claim/cut.py") 290, Value.int 116 0, Value.int 0 0, Value.int 0 0, Value.int 0 0, Value.int 0 0, Value.ref 61, Value.bool false, Value.int 181 0, Value.ref 62, Value.none, Value.none, Value.none, Value.none, Value.int 291 0, Value.int 116 0, Value.str (Str.ofString "/claim/cut.py") 292]) #[]
noncomputable def u64 (P : Params) : Obj := Obj.mk (Value.type "frame") none Data.plain #[some (Value.ref 63), some (Value.ref 3), some (Value.ref 60), none, some (Value.str (Str.ofString "cpy313.netrc") 284), none, some (Value.ref 0)]
noncomputable def u65 (P : Params) : Obj := Obj.mk (Value.type "tuple") none (Data.seq #[]) #[]
noncomputable def u66 (P : Params) : Obj := Obj.mk Value.none none (Data.fields #[]) #[]
noncomputable def u67 (P : Params) : Obj := Obj.mk (Value.type "tuple") none (Data.seq #[Value.str (Str.ofString "self") 301, Value.str (Str.ofString "fp") 302]) #[]
noncomputable def u68 (P : Params) : Obj := Obj.mk (Value.type "tuple") none (Data.seq #[]) #[]
noncomputable def u69 (P : Params) : Obj := cdObjQ (stmC "__init__") "_netrclex.__init__"
noncomputable def u70 (P : Params) : Obj := Obj.mk (Value.type "code") none (Data.fields #[Value.str (Str.ofString "__init__") 298, Value.str (Str.ofString "_netrclex.__init__") 299, Value.str (Str.ofString "/claim/cut.py") 300, Value.int 118 0, Value.int 2 0, Value.int 0 0, Value.int 0 0, Value.int 3 0, Value.ref 65, Value.bool true, Value.int 181 0, Value.ref 66, Value.none, Value.ref 67, Value.ref 68, Value.ref 69, Value.int 303 0, Value.int 118 0, Value.str (Str.ofString "/claim/cut.py") 304]) #[]
noncomputable def u71 (P : Params) : Obj := fnObjQ (stmC "__init__") "_netrclex.__init__" Value.none (Value.str (Str.ofString "cpy313.netrc") 284) (Value.ref 70)
noncomputable def u72 (P : Params) : Obj := Obj.mk (Value.type "tuple") none (Data.seq #[]) #[]
noncomputable def u73 (P : Params) : Obj := Obj.mk Value.none none (Data.fields #[]) #[]
noncomputable def u74 (P : Params) : Obj := Obj.mk (Value.type "tuple") none (Data.seq #[Value.str (Str.ofString "self") 309, Value.str (Str.ofString "ch") 310]) #[]
noncomputable def u75 (P : Params) : Obj := Obj.mk (Value.type "tuple") none (Data.seq #[]) #[]
noncomputable def u76 (P : Params) : Obj := cdObjQ (stmC "_read_char") "_netrclex._read_char"
noncomputable def u77 (P : Params) : Obj := Obj.mk (Value.type "code") none (Data.fields #[Value.str (Str.ofString "_read_char") 306, Value.str (Str.ofString "_netrclex._read_char") 307, Value.str (Str.ofString "/claim/cut.py") 308, Value.int 124 0, Value.int 1 0, Value.int 0 0, Value.int 0 0, Value.int 3 0, Value.ref 72, Value.bool true, Value.int 181 0, Value.ref 73, Value.none, Value.ref 74, Value.ref 75, Value.ref 76, Value.int 311 0, Value.int 124 0, Value.str (Str.ofString "/claim/cut.py") 312]) #[]
noncomputable def u78 (P : Params) : Obj := fnObjQ (stmC "_read_char") "_netrclex._read_char" Value.none (Value.str (Str.ofString "cpy313.netrc") 284) (Value.ref 77)
noncomputable def u79 (P : Params) : Obj := Obj.mk (Value.type "tuple") none (Data.seq #[]) #[]
noncomputable def u80 (P : Params) : Obj := Obj.mk Value.none none (Data.fields #[]) #[]
noncomputable def u81 (P : Params) : Obj := Obj.mk (Value.type "tuple") none (Data.seq #[Value.str (Str.ofString "self") 317, Value.str (Str.ofString "token") 318, Value.str (Str.ofString "fiter") 319, Value.str (Str.ofString "ch") 320]) #[]
noncomputable def u82 (P : Params) : Obj := Obj.mk (Value.type "tuple") none (Data.seq #[]) #[]
noncomputable def u83 (P : Params) : Obj := cdObjQ (stmC "get_token") "_netrclex.get_token"
noncomputable def u84 (P : Params) : Obj := Obj.mk (Value.type "code") none (Data.fields #[Value.str (Str.ofString "get_token") 314, Value.str (Str.ofString "_netrclex.get_token") 315, Value.str (Str.ofString "/claim/cut.py") 316, Value.int 130 0, Value.int 1 0, Value.int 0 0, Value.int 0 0, Value.int 3 0, Value.ref 79, Value.bool true, Value.int 181 0, Value.ref 80, Value.none, Value.ref 81, Value.ref 82, Value.ref 83, Value.int 321 0, Value.int 130 0, Value.str (Str.ofString "/claim/cut.py") 322]) #[]
noncomputable def u85 (P : Params) : Obj := fnObjQ (stmC "get_token") "_netrclex.get_token" Value.none (Value.str (Str.ofString "cpy313.netrc") 284) (Value.ref 84)
noncomputable def u86 (P : Params) : Obj := Obj.mk (Value.type "tuple") none (Data.seq #[]) #[]
noncomputable def u87 (P : Params) : Obj := Obj.mk Value.none none (Data.fields #[]) #[]
noncomputable def u88 (P : Params) : Obj := Obj.mk (Value.type "tuple") none (Data.seq #[Value.str (Str.ofString "self") 327, Value.str (Str.ofString "token") 328]) #[]
noncomputable def u89 (P : Params) : Obj := Obj.mk (Value.type "tuple") none (Data.seq #[]) #[]
noncomputable def u90 (P : Params) : Obj := cdObjQ (stmC "push_token") "_netrclex.push_token"
noncomputable def u91 (P : Params) : Obj := Obj.mk (Value.type "code") none (Data.fields #[Value.str (Str.ofString "push_token") 324, Value.str (Str.ofString "_netrclex.push_token") 325, Value.str (Str.ofString "/claim/cut.py") 326, Value.int 157 0, Value.int 2 0, Value.int 0 0, Value.int 0 0, Value.int 3 0, Value.ref 86, Value.bool true, Value.int 181 0, Value.ref 87, Value.none, Value.ref 88, Value.ref 89, Value.ref 90, Value.int 329 0, Value.int 157 0, Value.str (Str.ofString "/claim/cut.py") 330]) #[]
noncomputable def u92 (P : Params) : Obj := fnObjQ (stmC "push_token") "_netrclex.push_token" Value.none (Value.str (Str.ofString "cpy313.netrc") 284) (Value.ref 91)
noncomputable def u93 (P : Params) : Obj := Obj.mk (Value.type "tuple") none (Data.seq #[Value.str (Str.ofString "instream") 332, Value.str (Str.ofString "lineno") 333, Value.str (Str.ofString "pushback") 334, Value.str (Str.ofString "whitespace") 335]) #[]
noncomputable def u94 (P : Params) : Obj := Obj.mk (Value.type "dict") none (Data.dict #[DictEntry.mk (PyData.keyHash P (Str.ofString "__module__")) (Value.str (Str.ofString "__module__") 293) (Value.str (Str.ofString "cpy313.netrc") 284), DictEntry.mk (PyData.keyHash P (Str.ofString "__firstlineno__")) (Value.str (Str.ofString "__firstlineno__") 297) (Value.int 116 296), DictEntry.mk (PyData.keyHash P (Str.ofString "__init__")) (Value.str (Str.ofString "__init__") 305) (Value.ref 71), DictEntry.mk (PyData.keyHash P (Str.ofString "_read_char")) (Value.str (Str.ofString "_read_char") 313) (Value.ref 78), DictEntry.mk (PyData.keyHash P (Str.ofString "get_token")) (Value.str (Str.ofString "get_token") 323) (Value.ref 85), DictEntry.mk (PyData.keyHash P (Str.ofString "push_token")) (Value.str (Str.ofString "push_token") 331) (Value.ref 92), DictEntry.mk (PyData.keyHash P (Str.ofString "__static_attributes__")) (Value.str (Str.ofString "__static_attributes__") 336) (Value.ref 93), DictEntry.mk (PyData.keyHash P (Str.ofString "__dict__")) (Value.str (Str.ofString "__dict__") 338) (Value.ref 96), DictEntry.mk (PyData.keyHash P (Str.ofString "__weakref__")) (Value.str (Str.ofString "__weakref__") 340) (Value.ref 97), DictEntry.mk (PyData.keyHash P (Str.ofString "__doc__")) (Value.str (Str.ofString "__doc__") 341) Value.none] 4) #[]
noncomputable def u95 (P : Params) : Obj := Obj.mk (Value.type "type") none (Data.cls (ClassData.mk (Str.ofString "_netrclex") [Value.type "object"] [Value.ref 95, Value.type "object"] 94 (Str.ofString "_netrclex") true [] [] false none false)) #[none, none, some (Value.str (Str.ofString "_netrclex") 286), some (Value.str (Str.ofString "_netrclex") 294), some (Value.builtin "object.__new__"), some (Value.bool true)]
noncomputable def u96 (P : Params) : Obj := Obj.mk (Value.type "getset_descriptor") none (Data.fields #[Value.str (Str.ofString "__dict__") 337, Value.ref 95, Value.builtin "function.__dict__", Value.builtin "function.__dict__#set"]) #[]
noncomputable def u97 (P : Params) : Obj := Obj.mk (Value.type "getset_descriptor") none (Data.fields #[Value.str (Str.ofString "__weakref__") 339, Value.ref 95, Value.builtin "ExceptionGroup.__weakref__", Value.none]) #[]
noncomputable def u98 (P : Params) : Obj := Obj.mk (Value.type "super") none (Data.fields #[Value.ref 95, Value.ref 95, Value.ref 95]) #[]
noncomputable def u99 (P : Params) : Obj := Obj.mk (Value.type "builtin_function_or_method") none (Data.fields #[Value.builtin "object.__init_subclass__", Value.ref 95]) #[]
noncomputable def u100 (P : Params) : Obj := Obj.mk (Value.type "list") none (Data.seq #[Value.int 173 346, Value.int 847 347, Value.int 6150 348, Value.int 6155 349, Value.int 6156 350, Value.int 6157 351, Value.int 8203 352, Value.int 8204 353, Value.int 8205 354, Value.int 8288 355, Value.int 65279 356]) #[]
noncomputable def u101 (P : Params) : Obj := Obj.mk (Value.type "range") none (Data.fields #[Value.int 65024 357, Value.int 65040 358, Value.int 1 359]) #[]
noncomputable def u102 (P : Params) : Obj := Obj.mk (Value.type "list") none (Data.seq #[Value.int 65024 362, Value.int 65025 363, Value.int 65026 364, Value.int 65027 365, Value.int 65028 366, Value.int 65029 367, Value.int 65030 368, Value.int 65031 369, Value.int 65032 370, Value.int 65033 371, Value.int 65034 372, Value.int 65035 373, Value.int 65036 374, Value.int 65037 375, Value.int 65038 376, Value.int 65039 377] 18) #[]
noncomputable def u103 (P : Params) : Obj := Obj.mk (Value.type "range_iterator") none (Data.fields #[Value.int 65040 0, Value.int 0 0, Value.int 1 0]) #[]
noncomputable def u104 (P : Params) : Obj := Obj.mk (Value.type "tuple") none (Data.seq #[]) #[]
noncomputable def u105 (P : Params) : Obj := Obj.mk (Value.type "StopIteration") none (Data.fields #[Value.ref 104, Value.none, Value.none, Value.none, Value.bool false, Value.none]) #[]
noncomputable def u106 (P : Params) : Obj := Obj.mk (Value.type "list") none (Data.seq #[Value.int 173 346, Value.int 847 347, Value.int 6150 348, Value.int 6155 349, Value.int 6156 350, Value.int 6157 351, Value.int 8203 352, Value.int 8204 353, Value.int 8205 354, Value.int 8288 355, Value.int 65279 356, Value.int 65024 362, Value.int 65025 363, Value.int 65026 364, Value.int 65027 365, Value.int 65028 366, Value.int 65029 367, Value.int 65030 368, Value.int 65031 369, Value.int 65032 370, Value.int 65033 371, Value.int 65034 372, Value.int 65035 373, Value.int 65036 374, Value.int 65037 375, Value.int 65038 376, Value.int 65039 377]) #[]
noncomputable def u107 (P : Params) : Obj := Obj.mk (Value.type "set") none (Data.set #[(65024, Value.int 65024 362), (65025, Value.int 65025 363), (65026, Value.int 65026 364), (65027, Value.int 65027 365), (65028, Value.int 65028 366), (65029, Value.int 65029 367), (6150, Value.int 6150 348), (65030, Value.int 65030 368), (65031, Value.int 65031 369), (65032, Value.int 65032 370), (65033, Value.int 65033 371), (6155, Value.int 6155 349), (6156, Value.int 6156 350), (6157, Value.int 6157 351), (8203, Value.int 8203 352), (8204, Value.int 8204 353), (8205, Value.int 8205 354), (65034, Value.int 65034 372), (65035, Value.int 65035 373), (65036, Value.int 65036 374), (65037, Value.int 65037 375), (65038, Value.int 65038 376), (65039, Value.int 65039 377), (173, Value.int 173 346), (847, Value.int 847 347), (8288, Value.int 8288 355), (65279, Value.int 65279 356)] 29 (SetTable.mk 127 #[0, 1, 2, 3, 4, 5, 6, 7, 8, 9, 10, 11, 12, 13, 14, 15, 16, 17, 18, 19, 20, 21, 22, 45, 79, 96, 127] #[] 0 (!(Params.followText P "set-order")) 2 true)) #[]
noncomputable def u108 (P : Params) : Obj := Obj.mk (Value.type "list_iterator") none (Data.fields #[Value.none, Value.int 27 0]) #[]
noncomputable def u109 (P : Params) : Obj := Obj.mk (Value.type "tuple") none (Data.seq #[]) #[]
noncomputable def u110 (P : Params) : Obj := Obj.mk (Value.type "StopIteration") none (Data.fields #[Value.ref 109, Value.none, Value.none, Value.none, Value.bool false, Value.none]) #[]
noncomputable def u111 (P : Params) : Obj := Obj.mk (Value.type "tuple") none (Data.seq #[]) #[]
noncomputable def u112 (P : Params) : Obj := Obj.mk Value.none none (Data.fields #[]) #[]
noncomputable def u113 (P : Params) : Obj := Obj.mk (Value.type "tuple") none (Data.seq #[Value.str (Str.ofString "code") 409]) #[]
noncomputable def u114 (P : Params) : Obj := Obj.mk (Value.type "tuple") none (Data.seq #[]) #[]
noncomputable def u115 (P : Params) : Obj := cdObj (stm 13)
noncomputable def u116 (P : Params) : Obj := Obj.mk (Value.type "code") none (Data.fields #[Value.str (Str.ofString "in_table_b1") 406, Value.str (Str.ofString "in_table_b1") 407, Value.str (Str.ofString "/claim/cut.py") 408, Value.int 161 0, Value.int 1 0, Value.int 0 0, Value.int 0 0, Value.int 3 0, Value.ref 111, Value.bool true, Value.int 181 0, Value.ref 112, Value.none, Value.ref 113, Value.ref 114, Value.ref 115, Value.int 410 0, Value.int 161 0, Value.str (Str.ofString "/claim/cut.py") 411]) #[]
noncomputable def u117 (P : Params) : Obj := fnObj (stm 13) (Value.str (Str.ofString "cpy313.stringprep") 344) (Value.ref 116)
noncomputable def v3 (P : Params) : Obj := Obj.mk (Value.type "dict") none (Data.dict #[DictEntry.mk (PyData.keyHash P (Str.ofString "__name__")) (Value.str (Str.ofString "__name__") 165) (Value.str (Str.ofString "law_to0079_01") 2372), DictEntry.mk (PyData.keyHash P (Str.ofString "__doc__")) (Value.str (Str.ofString "__doc__") 166) Value.none, DictEntry.mk (PyData.keyHash P (Str.ofString "__package__")) (Value.str (Str.ofString "__package__") 167) Value.none, DictEntry.mk (PyData.keyHash P (Str.ofString "__loader__")) (Value.str (Str.ofString "__loader__") 168) (Value.builtin "__main__.__loader__#opaque"), DictEntry.mk (PyData.keyHash P (Str.ofString "__spec__")) (Value.str (Str.ofString "__spec__") 169) Value.none, DictEntry.mk (PyData.keyHash P (Str.ofString "__annotations__")) (Value.str (Str.ofString "__annotations__") 170) (Value.ref 6), DictEntry.mk (PyData.keyHash P (Str.ofString "__builtins__")) (Value.str (Str.ofString "__builtins__") 171) (Value.ref 4), DictEntry.mk (PyData.keyHash P (Str.ofString "__file__")) (Value.str (Str.ofString "__file__") 173) (Value.str (Str.ofString "/claim/cut.py") 172), DictEntry.mk (PyData.keyHash P (Str.ofString "__cached__")) (Value.str (Str.ofString "__cached__") 174) Value.none, DictEntry.mk (PyData.keyHash P (Str.ofString "compute_powers")) (Value.str (Str.ofString "compute_powers") 208) (Value.ref 22), DictEntry.mk (PyData.keyHash P (Str.ofString "_DIV_LIMIT")) (Value.str (Str.ofString "_DIV_LIMIT") 210) (Value.int 4000 209), DictEntry.mk (PyData.keyHash P (Str.ofString "_div2n1n")) (Value.str (Str.ofString "_div2n1n") 227) (Value.ref 29), DictEntry.mk (PyData.keyHash P (Str.ofString "_div3n2n")) (Value.str (Str.ofString "_div3n2n") 241) (Value.ref 36), DictEntry.mk (PyData.keyHash P (Str.ofString "_int2digits")) (Value.str (Str.ofString "_int2digits") 252) (Value.ref 43), DictEntry.mk (PyData.keyHash P (Str.ofString "_digits2int")) (Value.str (Str.ofString "_digits2int") 263) (Value.ref 50), DictEntry.mk (PyData.keyHash P (Str.ofString "rgb_to_hsv")) (Value.str (Str.ofString "rgb_to_hsv") 283) (Value.ref 57), DictEntry.mk (PyData.keyHash P (Str.ofString "_netrclex")) (Value.str (Str.ofString "_netrclex") 343) (Value.ref 95), DictEntry.mk (PyData.keyHash P (Str.ofString "b1_set")) (Value.str (Str.ofString "b1_set") 405) (Value.ref 107), DictEntry.mk (PyData.keyHash P (Str.ofString "in_table_b1")) (Value.str (Str.ofString "in_table_b1") 412) (Value.ref 117), DictEntry.mk (PyData.keyHash P (Str.ofString "b3_exceptions")) (Value.str (Str.ofString "b3_exceptions") 2363) (Value.ref 118), DictEntry.mk (PyData.keyHash P (Str.ofString "map_table_b3")) (Value.str (Str.ofString "map_table_b3") 2371) (Value.ref 163), DictEntry.mk (PyData.keyHash P (Str.ofString "_law_draws")) (Value.str (Str.ofString "_law_draws") 2379) (Value.ref 168), DictEntry.mk (PyData.keyHash P (Str.ofString "_law_word")) (Value.str (Str.ofString "_law_word") 2392) (Value.ref 175), DictEntry.mk (PyData.keyHash P (Str.ofString "_law_machine")) (Value.str (Str.ofString "_law_machine") 2403) (Value.ref 182), DictEntry.mk (PyData.keyHash P (Str.ofString "_law_read")) (Value.str (Str.ofString "_law_read") 2409) (Value.ref 187), DictEntry.mk (PyData.keyHash P (Str.ofString "_law_seat")) (Value.str (Str.ofString "_law_seat") 2422) (Value.ref 194), DictEntry.mk (PyData.keyHash P (Str.ofString "_law_dinner")) (Value.str (Str.ofString "_law_dinner") 2428) (Value.ref 199), DictEntry.mk (PyData.keyHash P (Str.ofString "_law_most")) (Value.str (Str.ofString "_law_most") 2434) (Value.ref 204), DictEntry.mk (PyData.keyHash P (Str.ofString "_law_first")) (Value.str (Str.ofString "_law_first") 2445) (Value.ref 211), DictEntry.mk (PyData.keyHash P (Str.ofString "_law_foe")) (Value.str (Str.ofString "_law_foe") 2451) (Value.ref 216), DictEntry.mk (PyData.keyHash P (Str.ofString "law")) (Value.str (Str.ofString "law") 2457) (Value.ref 221)] 31) #[]
noncomputable def v12 (P : Params) : Obj := Obj.mk Value.none none (Data.fields #[Value.int 2 0, Value.int 0 0, Value.ref 21, Value.int 44 0, Value.int 0 0, Value.ref 28, Value.int 60 0, Value.int 0 0, Value.ref 35, Value.int 70 0, Value.int 0 0, Value.ref 42, Value.int 86 0, Value.int 0 0, Value.ref 49, Value.int 96 0, Value.int 0 0, Value.ref 56, Value.int 116 0, Value.int 0 0, Value.ref 63, Value.int 161 0, Value.int 0 0, Value.ref 116, Value.int 164 0, Value.int 0 0, Value.ref 162, Value.int 170 0, Value.int 0 0, Value.ref 167, Value.int 173 0, Value.int 0 0, Value.ref 174, Value.int 182 0, Value.int 0 0, Value.ref 181, Value.int 192 0, Value.int 0 0, Value.ref 186, Value.int 198 0, Value.int 0 0, Value.ref 193, Value.int 209 0, Value.int 0 0, Value.ref 198, Value.int 232 0, Value.int 0 0, Value.ref 203, Value.int 237 0, Value.int 0 0, Value.ref 210, Value.int 244 0, Value.int 0 0, Value.ref 215, Value.int 272 0, Value.int 0 0, Value.ref 220]) #[]
noncomputable def v157 (P : Params) : Obj := Obj.mk (Value.type "tuple") none (Data.seq #[]) #[]
noncomputable def v158 (P : Params) : Obj := Obj.mk Value.none none (Data.fields #[]) #[]
noncomputable def v159 (P : Params) : Obj := Obj.mk (Value.type "tuple") none (Data.seq #[Value.str (Str.ofString "code") 2367, Value.str (Str.ofString "r") 2368]) #[]
noncomputable def v160 (P : Params) : Obj := Obj.mk (Value.type "tuple") none (Data.seq #[]) #[]
noncomputable def v161 (P : Params) : Obj := cdObj (stm 15)
noncomputable def v162 (P : Params) : Obj := Obj.mk (Value.type "code") none (Data.fields #[Value.str (Str.ofString "map_table_b3") 2364, Value.str (Str.ofString "map_table_b3") 2365, Value.str (Str.ofString "/claim/cut.py") 2366, Value.int 164 0, Value.int 1 0, Value.int 0 0, Value.int 0 0, Value.int 3 0, Value.ref 157, Value.bool true, Value.int 181 0, Value.ref 158, Value.none, Value.ref 159, Value.ref 160, Value.ref 161, Value.int 2369 0, Value.int 164 0, Value.str (Str.ofString "/claim/cut.py") 2370]) #[]
noncomputable def v163 (P : Params) : Obj := fnObj (stm 15) (Value.str (Str.ofString "cpy313.stringprep") 344) (Value.ref 162)
noncomputable def v164 (P : Params) : Obj := Obj.mk (Value.type "tuple") none (Data.seq #[]) #[]
noncomputable def v165 (P : Params) : Obj := Obj.mk Value.none none (Data.fields #[]) #[]
noncomputable def v166 (P : Params) : Obj := cdObj (stm 17)
noncomputable def v167 (P : Params) : Obj := Obj.mk (Value.type "code") none (Data.fields #[Value.str (Str.ofString "_law_draws") 2374, Value.str (Str.ofString "_law_draws") 2375, Value.str (Str.ofString "/claim/cut.py") 2376, Value.int 170 0, Value.int 1 0, Value.int 0 0, Value.int 0 0, Value.int 3 0, Value.ref 164, Value.bool true, Value.int 181 0, Value.ref 165, Value.none, Value.none, Value.none, Value.ref 166, Value.int 2377 0, Value.int 170 0, Value.str (Str.ofString "/claim/cut.py") 2378]) #[]
noncomputable def v168 (P : Params) : Obj := fnObj (stm 17) (Value.str (Str.ofString "law_to0079_01") 2372) (Value.ref 167)
noncomputable def v169 (P : Params) : Obj := Obj.mk (Value.type "tuple") none (Data.seq #[]) #[]
noncomputable def v170 (P : Params) : Obj := Obj.mk Value.none none (Data.fields #[]) #[]
noncomputable def v171 (P : Params) : Obj := Obj.mk (Value.type "tuple") none (Data.seq #[Value.str (Str.ofString "x") 2383, Value.str (Str.ofString "mask") 2384, Value.str (Str.ofString "start") 2385, Value.str (Str.ofString "hidden") 2386, Value.str (Str.ofString "word") 2387, Value.str (Str.ofString "place") 2388, Value.str (Str.ofString "bit") 2389]) #[]
noncomputable def v172 (P : Params) : Obj := Obj.mk (Value.type "tuple") none (Data.seq #[]) #[]
noncomputable def v173 (P : Params) : Obj := cdObj (stm 18)
noncomputable def v174 (P : Params) : Obj := Obj.mk (Value.type "code") none (Data.fields #[Value.str (Str.ofString "_law_word") 2380, Value.str (Str.ofString "_law_word") 2381, Value.str (Str.ofString "/claim/cut.py") 2382, Value.int 173 0, Value.int 1 0, Value.int 0 0, Value.int 0 0, Value.int 3 0, Value.ref 169, Value.bool true, Value.int 181 0, Value.ref 170, Value.none, Value.ref 171, Value.ref 172, Value.ref 173, Value.int 2390 0, Value.int 173 0, Value.str (Str.ofString "/claim/cut.py") 2391]) #[]
noncomputable def v175 (P : Params) : Obj := fnObj (stm 18) (Value.str (Str.ofString "law_to0079_01") 2372) (Value.ref 174)
noncomputable def v176 (P : Params) : Obj := Obj.mk (Value.type "tuple") none (Data.seq #[]) #[]
noncomputable def v177 (P : Params) : Obj := Obj.mk Value.none none (Data.fields #[]) #[]
noncomputable def v178 (P : Params) : Obj := Obj.mk (Value.type "tuple") none (Data.seq #[Value.str (Str.ofString "text") 2396, Value.str (Str.ofString "_law_read_on") 2397, Value.str (Str.ofString "stream") 2398]) #[]
noncomputable def v179 (P : Params) : Obj := Obj.mk (Value.type "tuple") none (Data.seq #[Value.str (Str.ofString "text") 2399, Value.str (Str.ofString "at") 2400]) #[]
noncomputable def v180 (P : Params) : Obj := cdObj (stm 19)
noncomputable def v181 (P : Params) : Obj := Obj.mk (Value.type "code") none (Data.fields #[Value.str (Str.ofString "_law_machine") 2393, Value.str (Str.ofString "_law_machine") 2394, Value.str (Str.ofString "/claim/cut.py") 2395, Value.int 182 0, Value.int 1 0, Value.int 0 0, Value.int 0 0, Value.int 3 0, Value.ref 176, Value.bool true, Value.int 181 0, Value.ref 177, Value.none, Value.ref 178, Value.ref 179, Value.ref 180, Value.int 2401 0, Value.int 182 0, Value.str (Str.ofString "/claim/cut.py") 2402]) #[]
noncomputable def v182 (P : Params) : Obj := fnObj (stm 19) (Value.str (Str.ofString "law_to0079_01") 2372) (Value.ref 181)
noncomputable def v183 (P : Params) : Obj := Obj.mk (Value.type "tuple") none (Data.seq #[]) #[]
noncomputable def v184 (P : Params) : Obj := Obj.mk Value.none none (Data.fields #[]) #[]
noncomputable def v185 (P : Params) : Obj := cdObj (stm 20)
noncomputable def v186 (P : Params) : Obj := Obj.mk (Value.type "code") none (Data.fields #[Value.str (Str.ofString "_law_read") 2404, Value.str (Str.ofString "_law_read") 2405, Value.str (Str.ofString "/claim/cut.py") 2406, Value.int 192 0, Value.int 2 0, Value.int 0 0, Value.int 0 0, Value.int 3 0, Value.ref 183, Value.bool true, Value.int 181 0, Value.ref 184, Value.none, Value.none, Value.none, Value.ref 185, Value.int 2407 0, Value.int 192 0, Value.str (Str.ofString "/claim/cut.py") 2408]) #[]
noncomputable def v187 (P : Params) : Obj := fnObj (stm 20) (Value.str (Str.ofString "law_to0079_01") 2372) (Value.ref 186)
noncomputable def v188 (P : Params) : Obj := Obj.mk (Value.type "tuple") none (Data.seq #[]) #[]
noncomputable def v189 (P : Params) : Obj := Obj.mk Value.none none (Data.fields #[]) #[]
noncomputable def v190 (P : Params) : Obj := Obj.mk (Value.type "tuple") none (Data.seq #[Value.str (Str.ofString "line") 2413, Value.str (Str.ofString "free") 2414, Value.str (Str.ofString "likes") 2415, Value.str (Str.ofString "rooms") 2416, Value.str (Str.ofString "taken") 2417, Value.str (Str.ofString "turn") 2418, Value.str (Str.ofString "name") 2419]) #[]
noncomputable def v191 (P : Params) : Obj := Obj.mk (Value.type "tuple") none (Data.seq #[]) #[]
noncomputable def v192 (P : Params) : Obj := cdObj (stm 21)
noncomputable def v193 (P : Params) : Obj := Obj.mk (Value.type "code") none (Data.fields #[Value.str (Str.ofString "_law_seat") 2410, Value.str (Str.ofString "_law_seat") 2411, Value.str (Str.ofString "/claim/cut.py") 2412, Value.int 198 0, Value.int 3 0, Value.int 0 0, Value.int 0 0, Value.int 3 0, Value.ref 188, Value.bool true, Value.int 181 0, Value.ref 189, Value.none, Value.ref 190, Value.ref 191, Value.ref 192, Value.int 2420 0, Value.int 198 0, Value.str (Str.ofString "/claim/cut.py") 2421]) #[]
noncomputable def v194 (P : Params) : Obj := fnObj (stm 21) (Value.str (Str.ofString "law_to0079_01") 2372) (Value.ref 193)
noncomputable def v195 (P : Params) : Obj := Obj.mk (Value.type "tuple") none (Data.seq #[]) #[]
noncomputable def v196 (P : Params) : Obj := Obj.mk Value.none none (Data.fields #[]) #[]
noncomputable def v197 (P : Params) : Obj := cdObj (stm 22)
noncomputable def v198 (P : Params) : Obj := Obj.mk (Value.type "code") none (Data.fields #[Value.str (Str.ofString "_law_dinner") 2423, Value.str (Str.ofString "_law_dinner") 2424, Value.str (Str.ofString "/claim/cut.py") 2425, Value.int 209 0, Value.int 3 0, Value.int 0 0, Value.int 0 0, Value.int 3 0, Value.ref 195, Value.bool true, Value.int 181 0, Value.ref 196, Value.none, Value.none, Value.none, Value.ref 197, Value.int 2426 0, Value.int 209 0, Value.str (Str.ofString "/claim/cut.py") 2427]) #[]
noncomputable def v199 (P : Params) : Obj := fnObj (stm 22) (Value.str (Str.ofString "law_to0079_01") 2372) (Value.ref 198)
noncomputable def v200 (P : Params) : Obj := Obj.mk (Value.type "tuple") none (Data.seq #[]) #[]
noncomputable def v201 (P : Params) : Obj := Obj.mk Value.none none (Data.fields #[]) #[]
noncomputable def v202 (P : Params) : Obj := cdObj (stm 23)
noncomputable def v203 (P : Params) : Obj := Obj.mk (Value.type "code") none (Data.fields #[Value.str (Str.ofString "_law_most") 2429, Value.str (Str.ofString "_law_most") 2430, Value.str (Str.ofString "/claim/cut.py") 2431, Value.int 232 0, Value.int 2 0, Value.int 0 0, Value.int 0 0, Value.int 3 0, Value.ref 200, Value.bool true, Value.int 181 0, Value.ref 201, Value.none, Value.none, Value.none, Value.ref 202, Value.int 2432 0, Value.int 232 0, Value.str (Str.ofString "/claim/cut.py") 2433]) #[]
noncomputable def v204 (P : Params) : Obj := fnObj (stm 23) (Value.str (Str.ofString "law_to0079_01") 2372) (Value.ref 203)
noncomputable def v205 (P : Params) : Obj := Obj.mk (Value.type "tuple") none (Data.seq #[]) #[]
noncomputable def v206 (P : Params) : Obj := Obj.mk Value.none none (Data.fields #[]) #[]
noncomputable def v207 (P : Params) : Obj := Obj.mk (Value.type "tuple") none (Data.seq #[Value.str (Str.ofString "line") 2438, Value.str (Str.ofString "free") 2439, Value.str (Str.ofString "offered") 2440, Value.str (Str.ofString "turn") 2441, Value.str (Str.ofString "name") 2442]) #[]
noncomputable def v208 (P : Params) : Obj := Obj.mk (Value.type "tuple") none (Data.seq #[]) #[]
noncomputable def v209 (P : Params) : Obj := cdObj (stm 24)
noncomputable def v210 (P : Params) : Obj := Obj.mk (Value.type "code") none (Data.fields #[Value.str (Str.ofString "_law_first") 2435, Value.str (Str.ofString "_law_first") 2436, Value.str (Str.ofString "/claim/cut.py") 2437, Value.int 237 0, Value.int 3 0, Value.int 0 0, Value.int 0 0, Value.int 3 0, Value.ref 205, Value.bool true, Value.int 181 0, Value.ref 206, Value.none, Value.ref 207, Value.ref 208, Value.ref 209, Value.int 2443 0, Value.int 237 0, Value.str (Str.ofString "/claim/cut.py") 2444]) #[]
noncomputable def v211 (P : Params) : Obj := fnObj (stm 24) (Value.str (Str.ofString "law_to0079_01") 2372) (Value.ref 210)
noncomputable def v212 (P : Params) : Obj := Obj.mk (Value.type "tuple") none (Data.seq #[]) #[]
noncomputable def v213 (P : Params) : Obj := Obj.mk Value.none none (Data.fields #[]) #[]
noncomputable def v214 (P : Params) : Obj := cdObj (stm 25)
noncomputable def v215 (P : Params) : Obj := Obj.mk (Value.type "code") none (Data.fields #[Value.str (Str.ofString "_law_foe") 2446, Value.str (Str.ofString "_law_foe") 2447, Value.str (Str.ofString "/claim/cut.py") 2448, Value.int 244 0, Value.int 3 0, Value.int 0 0, Value.int 0 0, Value.int 3 0, Value.ref 212, Value.bool true, Value.int 181 0, Value.ref 213, Value.none, Value.none, Value.none, Value.ref 214, Value.int 2449 0, Value.int 244 0, Value.str (Str.ofString "/claim/cut.py") 2450]) #[]
noncomputable def v216 (P : Params) : Obj := fnObj (stm 25) (Value.str (Str.ofString "law_to0079_01") 2372) (Value.ref 215)
noncomputable def v217 (P : Params) : Obj := Obj.mk (Value.type "tuple") none (Data.seq #[]) #[]
noncomputable def v218 (P : Params) : Obj := Obj.mk Value.none none (Data.fields #[]) #[]
noncomputable def v219 (P : Params) : Obj := cdObj (stm 26)
noncomputable def v220 (P : Params) : Obj := Obj.mk (Value.type "code") none (Data.fields #[Value.str (Str.ofString "law") 2452, Value.str (Str.ofString "law") 2453, Value.str (Str.ofString "/claim/cut.py") 2454, Value.int 272 0, Value.int 1 0, Value.int 0 0, Value.int 0 0, Value.int 3 0, Value.ref 217, Value.bool true, Value.int 181 0, Value.ref 218, Value.none, Value.none, Value.none, Value.ref 219, Value.int 2455 0, Value.int 272 0, Value.str (Str.ofString "/claim/cut.py") 2456]) #[]
noncomputable def v221 (P : Params) : Obj := fnObj (stm 26) (Value.str (Str.ofString "law_to0079_01") 2372) (Value.ref 220)
noncomputable def b12 (P : Params) : Obj := Obj.mk Value.none none (Data.fields #[]) #[]
noncomputable def AB (P : Params) : List Obj := [boot_o_0 P, boot_o_1 P, boot_o_2 P, boot_o_3 P, boot_o_4 P, boot_o_5 P, boot_o_6 P, boot_o_7 P, boot_o_8 P, boot_o_9 P, boot_o_10 P, u11 P, b12 P, u13 P, u14 P]
noncomputable def A11 (P : Params) : List Obj := [boot_o_0 P, boot_o_1 P, boot_o_2 P, t3 P, boot_o_4 P, boot_o_5 P, boot_o_6 P, boot_o_7 P, boot_o_8 P, boot_o_9 P, boot_o_10 P, u11 P, t12 P, u13 P, u14 P, u15 P, u16 P, u17 P, u18 P, u19 P, u20 P, u21 P, u22 P, u23 P, u24 P, u25 P, u26 P, u27 P, u28 P, u29 P, u30 P, u31 P, u32 P, u33 P, u34 P, u35 P, u36 P, u37 P, u38 P, u39 P, u40 P, u41 P, u42 P, u43 P, u44 P, u45 P, u46 P, u47 P, u48 P, u49 P, u50 P, u51 P, u52 P, u53 P, u54 P, u55 P, u56 P, u57 P, u58 P, u59 P, u60 P, u61 P, u62 P, u63 P, u64 P, u65 P, u66 P, u67 P, u68 P, u69 P, u70 P, u71 P, u72 P, u73 P, u74 P, u75 P, u76 P, u77 P, u78 P, u79 P, u80 P, u81 P, u82 P, u83 P, u84 P, u85 P, u86 P, u87 P, u88 P, u89 P, u90 P, u91 P, u92 P, u93 P, u94 P, u95 P, u96 P, u97 P, u98 P, u99 P]
noncomputable def A13 (P : Params) : List Obj := [boot_o_0 P, boot_o_1 P, boot_o_2 P, u3 P, boot_o_4 P, boot_o_5 P, boot_o_6 P, boot_o_7 P, boot_o_8 P, boot_o_9 P, boot_o_10 P, u11 P, u12 P, u13 P, u14 P, u15 P, u16 P, u17 P, u18 P, u19 P, u20 P, u21 P, u22 P, u23 P, u24 P, u25 P, u26 P, u27 P, u28 P, u29 P, u30 P, u31 P, u32 P, u33 P, u34 P, u35 P, u36 P, u37 P, u38 P, u39 P, u40 P, u41 P, u42 P, u43 P, u44 P, u45 P, u46 P, u47 P, u48 P, u49 P, u50 P, u51 P, u52 P, u53 P, u54 P, u55 P, u56 P, u57 P, u58 P, u59 P, u60 P, u61 P, u62 P, u63 P, u64 P, u65 P, u66 P, u67 P, u68 P, u69 P, u70 P, u71 P, u72 P, u73 P, u74 P, u75 P, u76 P, u77 P, u78 P, u79 P, u80 P, u81 P, u82 P, u83 P, u84 P, u85 P, u86 P, u87 P, u88 P, u89 P, u90 P, u91 P, u92 P, u93 P, u94 P, u95 P, u96 P, u97 P, u98 P, u99 P, u100 P, u101 P, u102 P, u103 P, u104 P, u105 P, u106 P, u107 P, u108 P, u109 P, u110 P, u111 P, u112 P, u113 P, u114 P, u115 P, u116 P, u117 P]
noncomputable def A26 (P : Params) (ds : Nat → Obj) : List Obj := [boot_o_0 P, boot_o_1 P, boot_o_2 P, v3 P, boot_o_4 P, boot_o_5 P, boot_o_6 P, boot_o_7 P, boot_o_8 P, boot_o_9 P, boot_o_10 P, u11 P, v12 P, u13 P, u14 P, u15 P, u16 P, u17 P, u18 P, u19 P, u20 P, u21 P, u22 P, u23 P, u24 P, u25 P, u26 P, u27 P, u28 P, u29 P, u30 P, u31 P, u32 P, u33 P, u34 P, u35 P, u36 P, u37 P, u38 P, u39 P, u40 P, u41 P, u42 P, u43 P, u44 P, u45 P, u46 P, u47 P, u48 P, u49 P, u50 P, u51 P, u52 P, u53 P, u54 P, u55 P, u56 P, u57 P, u58 P, u59 P, u60 P, u61 P, u62 P, u63 P, u64 P, u65 P, u66 P, u67 P, u68 P, u69 P, u70 P, u71 P, u72 P, u73 P, u74 P, u75 P, u76 P, u77 P, u78 P, u79 P, u80 P, u81 P, u82 P, u83 P, u84 P, u85 P, u86 P, u87 P, u88 P, u89 P, u90 P, u91 P, u92 P, u93 P, u94 P, u95 P, u96 P, u97 P, u98 P, u99 P, u100 P, u101 P, u102 P, u103 P, u104 P, u105 P, u106 P, u107 P, u108 P, u109 P, u110 P, u111 P, u112 P, u113 P, u114 P, u115 P, u116 P, u117 P, ds 0, ds 1, ds 2, ds 3, ds 4, ds 5, ds 6, ds 7, ds 8, ds 9, ds 10, ds 11, ds 12, ds 13, ds 14, ds 15, ds 16, ds 17, ds 18, ds 19, ds 20, ds 21, ds 22, ds 23, ds 24, ds 25, ds 26, ds 27, ds 28, ds 29, ds 30, ds 31, ds 32, ds 33, ds 34, ds 35, ds 36, ds 37, ds 38, v157 P, v158 P, v159 P, v160 P, v161 P, v162 P, v163 P, v164 P, v165 P, v166 P, v167 P, v168 P, v169 P, v170 P, v171 P, v172 P, v173 P, v174 P, v175 P, v176 P, v177 P, v178 P, v179 P, v180 P, v181 P, v182 P, v183 P, v184 P, v185 P, v186 P, v187 P, v188 P, v189 P, v190 P, v191 P, v192 P, v193 P, v194 P, v195 P, v196 P, v197 P, v198 P, v199 P, v200 P, v201 P, v202 P, v203 P, v204 P, v205 P, v206 P, v207 P, v208 P, v209 P, v210 P, v211 P, v212 P, v213 P, v214 P, v215 P, v216 P, v217 P, v218 P, v219 P, v220 P, v221 P]
end Mine

end
section
open PySem PySem.Calls PyProof.Rows PySem.W
namespace Mine
theorem thr_deep {t : Thread} (h : t.stack ≠ []) : through t = false := by
  unfold through
  cases e : t.stack with
  | nil => exact absurd e h
  | cons _ _ => rfl
section
variable {p : Program} {w : World} {n₀ : Nat} {ann : Option Value}
theorem seg_one {s s' : Shared} {t t' : Thread} (h1 : through t = false) (h2 : stepOk n₀ ann t = true) (h3 : step (denote treeTable) p w s t = .go s' t') : topGo treeTable p w n₀ ann 1 s t = some (s', t') := by
  unfold topGo
  rw [h1, h2, h3]
  rfl
theorem seg_cat : ∀ {n m : Nat} {s s1 : Shared} {t t1 : Thread} {r : Option (Shared × Thread)}, topGo treeTable p w n₀ ann n s t = some (s1, t1) → topGo treeTable p w n₀ ann m s1 t1 = r → topGo treeTable p w n₀ ann (n + m) s t = r
  | 0, m, s, s1, t, t1, r, h, k => by
    obtain ⟨rfl, rfl⟩ : s = s1 ∧ t = t1 := by simpa [topGo] using h
    rw [Nat.zero_add]; exact k
  | n + 1, m, s, s1, t, t1, r, h, k => by
    rw [show n + 1 + m = n + m + 1 by lia]
    unfold topGo at h ⊢
    cases he : through t with
    | true => rw [he] at h; cases h
    | false =>
      rw [he] at h
      cases hk : stepOk n₀ ann t with
      | false => rw [hk] at h; cases h
      | true =>
        rw [hk] at h
        cases hs : step (denote treeTable) p w s t with
        | halt o s₂ => rw [hs] at h; cases h
        | go s₂ t₂ => rw [hs] at h; exact seg_cat h k
noncomputable def Does (p : Program) (w : World) (n₀ : Nat) (ann : Option Value) {α : Type} (x : Sem α) (s s' : Shared) (a : α) (n : Nat) : Prop :=
  ∀ (K : α → Sem Fin) (H : Value → Sem Fin) (gd : Bool → Bool) (lv : List Value → List Value) (c : Code) (q : Pos) (B : List Frame), B ≠ [] →
    ∃ q', topGo treeTable p w n₀ ann n s ⟨x.wrap K H gd lv, c, q, B⟩ = some (s', ⟨K a, c, q', B⟩)
variable {α β : Type}
theorem Does.pur {a : α} {s : Shared} : Does p w n₀ ann (Pure.pure a : Sem α) s s a 0 := fun K H gd lv c q B _ => ⟨q, rfl⟩
theorem Does.pure' {a : α} {s : Shared} : Does p w n₀ ann (Sem.pure a) s s a 0 := fun K H gd lv c q B _ => ⟨q, rfl⟩
theorem Does.wrap {x : Sem α} {k : α → Sem β} {h : Value → Sem β} {g : Bool → Bool} {l : List Value → List Value} {s s1 s2 : Shared} {a : α} {b : β} {n m : Nat} (hx : Does p w n₀ ann x s s1 a n) (hk : Does p w n₀ ann (k a) s1 s2 b m) :
    Does p w n₀ ann (x.wrap k h g l) s s2 b (n + m) := fun K H gd lv c q B hB => by
  rw [Sem.wrap_wrap]
  obtain ⟨q1, e1⟩ := hx (fun a => (k a).wrap K H gd lv) (fun e => (h e).wrap K H gd lv) (fun b => gd (g b)) (fun v => lv (l v)) c q B hB
  obtain ⟨q2, e2⟩ := hk K H gd lv c q1 B hB
  exact ⟨q2, seg_cat e1 e2⟩
theorem Does.bind {x : Sem α} {f : α → Sem β} {s s1 s2 : Shared} {a : α} {b : β} {n m : Nat} (hx : Does p w n₀ ann x s s1 a n) (hf : Does p w n₀ ann (f a) s1 s2 b m) : Does p w n₀ ann (x >>= f) s s2 b (n + m) := by
  rw [Sem.bind_eq_wrap']
  exact hx.wrap hf
theorem Does.keep {vs : List Value} {x : Sem α} {s s' : Shared} {a : α} {n : Nat} (hx : Does p w n₀ ann x s s' a n) : Does p w n₀ ann (x.keep vs) s s' a n := by
  rw [Sem.keep_eq_wrap]
  exact hx.wrap .pure'
theorem Does.holding {vs : List Value} {x : Sem α} {s s' : Shared} {a : α} {n : Nat} (hx : Does p w n₀ ann x s s' a n) : Does p w n₀ ann (holding vs x) s s' a n := by
  unfold PySem.holding
  split
  · exact hx
  · exact hx.keep
theorem Does.onRaise {x : Sem α} {h : Value → Sem Unit} {s s' : Shared} {a : α} {n : Nat} (hx : Does p w n₀ ann x s s' a n) : Does p w n₀ ann (x.onRaise h) s s' a n := by
  rw [Sem.onRaise_eq_wrap]
  exact hx.wrap .pure'
theorem Does.tryCatch {x : Sem α} {h : Value → Sem α} {s s' : Shared} {a : α} {n : Nat} (hx : Does p w n₀ ann x s s' a n) : Does p w n₀ ann (x.tryCatch h) s s' a n := by
  rw [Sem.tryCatch_eq_wrap]
  exact hx.wrap .pure'
theorem Does.of_eq {x y : Sem α} {s s' : Shared} {a : α} {n : Nat} (e : x = y) (h : Does p w n₀ ann y s s' a n) : Does p w n₀ ann x s s' a n := e ▸ h
theorem Does.ite {c : Prop} [Decidable c] {x y : Sem α} {s s' : Shared} {a : α} {n : Nat} (h1 : c → Does p w n₀ ann x s s' a n) (h2 : ¬ c → Does p w n₀ ann y s s' a n) : Does p w n₀ ann (if c then x else y) s s' a n := by
  split
  · exact h1 (by assumption)
  · exact h2 (by assumption)
theorem Does.step {x : Sem α} {y : Sem α} {s s1 s2 : Shared} {a : α} {n : Nat}
    (h : ∀ (K : α → Sem Fin) (H : Value → Sem Fin) (gd : Bool → Bool) (lv : List Value → List Value) (c : Code) (q : Pos) (B : List Frame), B ≠ [] → ∃ q', topGo treeTable p w n₀ ann 1 s ⟨x.wrap K H gd lv, c, q, B⟩ = some (s1, ⟨y.wrap K H gd lv, c, q', B⟩))
    (hy : Does p w n₀ ann y s1 s2 a n) : Does p w n₀ ann x s s2 a (1 + n) := fun K H gd lv c q B hB => by
  obtain ⟨q1, e1⟩ := h K H gd lv c q B hB
  obtain ⟨q2, e2⟩ := hy K H gd lv c q1 B hB
  exact ⟨q2, seg_cat e1 e2⟩
theorem Does.rule {tag : String} {s : Shared} : Does p w n₀ ann (PySem.rule tag) s s () 1 :=
  Does.step (y := .pure ()) (fun K H gd lv c q B hB => ⟨q, seg_one (thr_deep hB) rfl (by obtain ⟨_, _, _, _, _⟩ := s; rfl)⟩) .pure'
theorem Does.standAt {pos : Pos} {s : Shared} : Does p w n₀ ann (PySem.standAt pos) s s () 1 :=
  Does.step (y := .pure ()) (fun K H gd lv c q B hB => ⟨pos, seg_one (thr_deep hB) rfl (by obtain ⟨_, _, _, _, _⟩ := s; rfl)⟩) .pure'
theorem Does.fresh {s : Shared} : Does p w n₀ ann PySem.fresh s { s with toks := s.toks + 1 } s.toks 1 :=
  Does.step (y := .pure s.toks) (fun K H gd lv c q B hB => ⟨q, seg_one (thr_deep hB) rfl (by obtain ⟨_, _, _, _, _⟩ := s; rfl)⟩) .pure'
theorem Does.ask {s : Shared} : Does p w n₀ ann PySem.ask s s (⟨p, w.params⟩ : Setting) 1 :=
  Does.step (y := .pure (⟨p, w.params⟩ : Setting)) (fun K H gd lv c q B hB => ⟨q, seg_one (thr_deep hB) rfl (by obtain ⟨_, _, _, _, _⟩ := s; rfl)⟩) .pure'
theorem Does.alloc {o : Obj} {s : Shared} : Does p w n₀ ann (PySem.alloc o) s { s with heap := s.heap.push o } s.heap.objs.size 1 :=
  Does.step (y := .pure s.heap.objs.size) (fun K H gd lv c q B hB => ⟨q, seg_one (thr_deep hB) rfl (by obtain ⟨_, _, _, _, _⟩ := s; rfl)⟩) .pure'
theorem Does.loadPart {a : Addr} {part : Option Value} {o : Obj} {s : Shared} (h : s.heap.get? a = some o) : Does p w n₀ ann (PySem.loadPart a part) s s o 1 :=
  Does.step (y := .pure o) (fun K H gd lv c q B hB => ⟨q, seg_one (thr_deep hB) rfl (by obtain ⟨_, _, _, _, _⟩ := s; dsimp only at h; dsimp only [PySem.loadPart, Sem.wrap, PySem.step]; rw [h])⟩) .pure'
theorem Does.load {a : Addr} {o : Obj} {s : Shared} (h : s.heap.get? a = some o) : Does p w n₀ ann (PySem.load a) s s o 1 := Does.loadPart (part := none) h
theorem Does.updatePart {a : Addr} {part : Option Value} {f : Obj → Obj} {o : Obj} {s : Shared} (h : s.heap.get? a = some o) (ha : n₀ ≤ a) : Does p w n₀ ann (PySem.updatePart a part f) s { s with heap := s.heap.update a f } () 1 :=
  Does.step (y := .pure ()) (fun K H gd lv c q B hB => ⟨q, seg_one (thr_deep hB) (by
    dsimp only [PySem.updatePart, Sem.wrap, stepOk]
    rw [Nat.ble_eq.mpr ha]
    rfl) (by obtain ⟨_, _, _, _, _⟩ := s; dsimp only at h; dsimp only [PySem.updatePart, Sem.wrap, PySem.step]; rw [h]; rfl)⟩) .pure'
theorem wrap_self : ∀ (x : Sem α), x.wrap .pure .raise id id = x := fun x => by
  induction x <;> simp only [Sem.wrap, id, *]
theorem Does.run {c c2 : Code} {f : Flow} {s s' : Shared} {n : Nat} (h1 : denote treeTable c = .pure (.again c2)) (hc : ∀ q B, stepOk n₀ ann ⟨.pure (.again c2), c, q, B⟩ = true) (h2 : Does p w n₀ ann (denote treeTable c2) s s' (.done f) n) :
    Does p w n₀ ann (PySem.run c) s s' f (1 + (1 + (n + 1))) := fun K H gd lv cd q B hB => by
  obtain ⟨h, g, d, k, o⟩ := s
  have e1 : ∃ kept, PySem.step (denote treeTable) p w ⟨h, g, d, k, o⟩ ⟨(PySem.run c).wrap K H gd lv, cd, q, B⟩ =
      .go ⟨h, g, d, k, o⟩ ⟨denote treeTable c, c, q, .ret (fun x => (match x with | .ok f => Sem.pure f | .error e => Sem.raise e : Sem Flow).wrap K H gd lv) none (gd false) (lv []) cd q kept :: B⟩ := ⟨_, rfl⟩
  obtain ⟨kept, e1⟩ := e1
  rw [h1] at e1
  have z1 := seg_one (p := p) (w := w) (n₀ := n₀) (ann := ann) (thr_deep hB) rfl e1
  have z2 := seg_one (p := p) (w := w) (n₀ := n₀) (ann := ann) (thr_deep (by exact List.cons_ne_nil _ _)) (hc q _) (step_again (den := denote treeTable) (p := p) (w := w) (heap := h) (gens := g) (drawn := d) (toks := k) (os := o) (c := c2) (code := c) (pos := q) (k := fun x => (match x with | .ok f => Sem.pure f | .error e => Sem.raise e : Sem Flow).wrap K H gd lv) (h := none) (g := gd false) (l := lv []) (cd := cd) (p₀ := q) (kept := kept) (rest := B))
  obtain ⟨q3, z3⟩ := h2 .pure .raise id id c2 q (.ret (fun x => (match x with | .ok f => Sem.pure f | .error e => Sem.raise e : Sem Flow).wrap K H gd lv) none (gd false) (lv []) cd q (keptBy c c2 (lv []) kept) :: B) (by simp)
  rw [wrap_self] at z3
  have z4 : topGo treeTable p w n₀ ann 1 s' ⟨.pure (.done f), c2, q3, .ret (fun x => (match x with | .ok f => Sem.pure f | .error e => Sem.raise e : Sem Flow).wrap K H gd lv) none (gd false) (lv []) cd q (keptBy c c2 (lv []) kept) :: B⟩ = some (s', ⟨K f, cd, q, B⟩) := by
    exact seg_one (thr_deep (by simp)) rfl (by obtain ⟨_, _, _, _, _⟩ := s'; rfl)
  exact ⟨q, seg_cat z1 (seg_cat z2 (seg_cat z3 z4))⟩
theorem Does.call {f : Value} {args : List Value} {kw : List (Str × Value)} {c2 : Code} {v : Value} {s s' : Shared} {n : Nat} (h1 : denote treeTable (.call f ⟨args, kw⟩) = .pure (.again c2)) (hc : ∀ q B, stepOk n₀ ann ⟨.pure (.again c2), .call f ⟨args, kw⟩, q, B⟩ = true)
    (h2 : Does p w n₀ ann (denote treeTable c2) s s' (.done (.ret v)) n) : Does p w n₀ ann (PySem.call f args kw) s s' v (1 + (1 + (n + 1))) := by
  unfold PySem.call runValue
  exact Does.bind (m := 0) (Does.run h1 hc h2) .pur
theorem hash_code (k : Int) (t : Tok) : denote treeTable (.call (.builtin "int.__hash__") ⟨[.int k t], []⟩) = .pure (.again (.builtin "int.__hash__" ⟨[.int k t], []⟩)) := by kernel_rfl
theorem hash_entry (k : Int) (t : Tok) : denote treeTable (.builtin "int.__hash__" ⟨[.int k t], []⟩) = (do ret (← mkInt (rawHash k))) := by kernel_rfl
end
end Mine

end
section
open PySem PySem.Calls PyProof.Rows PySem.W
namespace Mine
section
variable {p : Program} {w : World} {n₀ : Nat} {ann : Option Value} {α β : Type}
theorem Does.ret_int {i : Int} {s : Shared} : Does p w n₀ ann (do ret (← mkInt i) : Sem Fin) s { s with toks := s.toks + 1 } (.done (.ret (.int i s.toks))) 1 :=
  Does.bind (n := 1) (m := 0) (Does.bind (n := 1) (m := 0) .fresh .pur) .pur
theorem Does.call_hash {k : Int} {t : Tok} {s : Shared} : Does p w n₀ ann (PySem.call (.builtin "int.__hash__") [.int k t]) s { s with toks := s.toks + 1 } (.int (rawHash k) s.toks) 4 :=
  Does.call (hash_code k t) (fun _ _ => by kernel_rfl) (Does.of_eq (hash_entry k t) .ret_int)
theorem Does.special {v : Value} {T : String} {name : Str} {r : Option Value} {s : Shared} (hT : typeOf v = Pure.pure (.type T)) (h : typeLookup (.type T) name = Pure.pure r) : Does p w n₀ ann (specialOf v name) s s r 0 := by
  unfold specialOf
  rw [hT]
  exact Does.bind (n := 0) (m := 0) .pur (Does.of_eq h .pur)
theorem Does.hash {k : Int} {t : Tok} {s : Shared} : Does p w n₀ ann (pyHash (.int k t)) s { s with toks := s.toks + 1 } (hashInt k) 5 := by
  have hr := rawHash_range k
  unfold pyHash
  have hv : [Value.int k t].any Value.onHeap = false := rfl
  refine Does.bind (n := 0) (m := 5) (s1 := s) (a := ()) ?_ ?_
  · rw [cRoomFor, if_neg (by rw [hv]; exact Bool.false_ne_true)]; exact .pur
  refine Does.bind (n := 0) (m := 5) (Does.special (typeIs_int s k t) slot_int_hash.lookup) ?_
  show Does _ _ _ _ (if (some (Value.builtin "int.__hash__") == some Value.none) = true then _ else _) _ _ _ _
  rw [if_neg (by rw [beq_builtin_none]; exact Bool.false_ne_true)]
  refine Does.bind (n := 0) (m := 5) (Does.special (typeIs_int s k t) slot_int_hash.lookup) ?_
  show Does _ _ _ _ (callSpecialIfBoundUnlessNone? (.int k t) "__hash__" _ >>= _) _ _ _ _
  refine Does.bind (n := 5) (m := 0) (s1 := { s with toks := s.toks + 1 }) (a := some (.int (rawHash k) s.toks)) ?_ ?_
  · simp -iota only [callSpecialIfBoundUnlessNone?, bindSpecialIfBound?]
    refine Does.holding (Does.bind (n := 1) (m := 4) (s1 := s) (a := some (.builtin "int.__hash__", [.int k t])) (Does.bind (n := 0) (m := 1) (Does.special (typeIs_int s k t) slot_int_hash.lookup) ?_) ?_)
    · simp only [slot_int_hash.bind]
      refine Does.bind (n := 1) (m := 0) .ask (Does.ite (fun _ => ?_) fun _ => Does.tryCatch ?_)
      · exact Does.bind (n := 0) (m := 0) .pur .pur
      · exact Does.bind (n := 0) (m := 0) .pur .pur
    · simp only [builtin_beq_none, Bool.false_eq_true, if_false]
      exact Does.bind (n := 4) (m := 0) .call_hash .pur
  · show Does _ _ _ _ (if (decide (-(2 : Int) ^ 63 ≤ rawHash k) && decide (rawHash k < 2 ^ 63)) = true then _ else _) _ _ _ _
    rw [if_pos (by rw [decide_eq_true hr.1, decide_eq_true hr.2]; rfl)]
    exact .pur
end
end Mine

end
section
open PySem PySem.Calls PyProof.Rows PySem.W
namespace Mine
noncomputable def hp (life : Life) (l : List Obj) : Heap := ⟨l.toArray, life⟩
noncomputable def dObj (es : List DictEntry) (ep : Nat) : Obj := { cls := .type "dict", data := .dict es.toArray ep }
theorem hp_get {life : Life} {A B : List Obj} {es : List DictEntry} {ep : Nat} : (hp life (A ++ dObj es ep :: B)).get? A.length = some (dObj es ep) := by
  have : (A ++ dObj es ep :: B).toArray[A.length]? = some (dObj es ep) := by simp
  unfold Heap.get? hp
  dsimp only
  rw [this]
  rfl
theorem modify_mid {α : Type} (A B : List α) (x : α) (f : α → α) : (A ++ x :: B).toArray.modify A.length f = (A ++ f x :: B).toArray := by
  simp only [List.modify_toArray]
  congr 1
  induction A with
  | nil => rfl
  | cons a A ih => simp only [List.cons_append, List.length_cons, List.modify_succ_cons, ih]
theorem hp_upd {life : Life} {A B : List Obj} {X : Obj} {f : Obj → Obj} : (hp life (A ++ X :: B)).update A.length f = hp life (A ++ f X :: B) := by
  unfold hp Heap.update
  dsimp only
  rw [modify_mid]
theorem hp_push {life : Life} {l : List Obj} {o : Obj} : (hp life l).push o = hp life (l ++ [o]) := by
  unfold hp Heap.push
  dsimp only
  rw [List.push_toArray]
theorem hp_size {life : Life} {l : List Obj} : (hp life l).objs.size = l.length := by simp [hp]
section
variable {p : Program} {w : World} {n₀ : Nat} {ann : Option Value} {α β : Type}
noncomputable abbrev stt (s : Shared) (life : Life) (l : List Obj) (k : Nat) : Shared := { s with heap := hp life l, toks := k }
theorem Does.entries {s : Shared} {life : Life} {A B : List Obj} {es : List DictEntry} {ep k : Nat} {part : Option Value} : Does p w n₀ ann (dictEntries A.length part) (stt s life (A ++ dObj es ep :: B) k) (stt s life (A ++ dObj es ep :: B) k) es.toArray 1 := by
  unfold dictEntries
  exact Does.bind (n := 1) (m := 0) (Does.loadPart hp_get) .pur
theorem Does.epoch {s : Shared} {life : Life} {A B : List Obj} {es : List DictEntry} {ep k : Nat} {part : Option Value} : Does p w n₀ ann (dictEpoch A.length part) (stt s life (A ++ dObj es ep :: B) k) (stt s life (A ++ dObj es ep :: B) k) ep 1 := by
  unfold dictEpoch
  exact Does.bind (n := 1) (m := 0) (Does.loadPart hp_get) .pur
theorem places_none {es : List DictEntry} {h : Int} (hn : ∀ e ∈ es, e.hash ≠ h) : placesWithHash es.toArray.size (fun i => es.toArray[i]?.map (·.hash)) h = [] := by
  unfold placesWithHash
  rw [List.filter_eq_nil_iff]
  intro i hi
  simp only [List.mem_range, List.size_toArray] at hi
  simp only [List.getElem?_toArray, List.getElem?_eq_getElem hi, Option.map_some, beq_iff_eq, Option.some.injEq]
  exact hn _ (List.getElem_mem hi)
theorem Does.find {s : Shared} {life : Life} {A B : List Obj} {es : List DictEntry} {ep k : Nat} {n : Int} {t : Tok} {h : Int} (hn : ∀ e ∈ es, e.hash ≠ h) :
    Does p w n₀ ann (dictFind A.length (.int n t) h) (stt s life (A ++ dObj es ep :: B) k) (stt s life (A ++ dObj es ep :: B) k) none 1 := by
  unfold dictFind
  refine Does.holding (Does.bind (n := 1) (m := 0) .entries ?_)
  dsimp only
  rw [places_none hn]
  exact .pur
theorem mk_push {es : List DictEntry} {ep : Nat} {e : DictEntry} : Obj.mapDictKeys (·.push e) (dObj es ep) = dObj (es ++ [e]) (ep + 1) := by
  show ({ dObj es ep with data := .dict (es.toArray.push e) (ep + 1) } : Obj) = _
  rw [List.push_toArray]; rfl
theorem Does.updateKeys {s : Shared} {life : Life} {A B : List Obj} {es : List DictEntry} {ep k : Nat} {part : Option Value} {e : DictEntry} (hA : n₀ ≤ A.length) (hz : es.length < 1000) :
    Does p w n₀ ann (updateDictKeys A.length (·.push e) part) (stt s life (A ++ dObj es ep :: B) k) (stt s life (A ++ dObj (es ++ [e]) (ep + 1) :: B) k) () 3 := by
  unfold updateDictKeys
  refine Does.bind (n := 1) (m := 2) (Does.loadPart hp_get) ?_
  refine Does.bind (n := 1) (m := 1) (a := ()) (s1 := stt s life (A ++ dObj (es ++ [e]) (ep + 1) :: B) k) ?_ ?_
  · have := Does.updatePart (p := p) (w := w) (n₀ := n₀) (ann := ann) (part := part) (f := Obj.mapDictKeys (·.push e)) (s := stt s life (A ++ dObj es ep :: B) k) hp_get hA
    rw [show ({ stt s life (A ++ dObj es ep :: B) k with heap := (stt s life (A ++ dObj es ep :: B) k).heap.update A.length (Obj.mapDictKeys (·.push e)) } : Shared) = stt s life (A ++ dObj (es ++ [e]) (ep + 1) :: B) k from by
      show ({ s with heap := (hp life (A ++ dObj es ep :: B)).update A.length _, toks := k } : Shared) = _
      rw [hp_upd]
      exact congrArg (fun x => ({ s with heap := hp life (A ++ x :: B), toks := k } : Shared)) (show Obj.mapDictKeys (·.push e) (dObj es ep) = dObj (es ++ [e]) (ep + 1) from mk_push)] at this
    exact this
  · unfold lookBehind
    refine Does.bind (n := 1) (m := 0) (Does.loadPart hp_get) ?_
    have : (dObj (es ++ [e]) (ep + 1)).data.pastItsLine = none := by
      refine if_neg ?_
      simp only [List.size_toArray, List.length_append, List.length_singleton, sizeLine_eq]
      lia
    rw [this]
    exact .pur
theorem Does.setNew {s : Shared} {life : Life} {A B : List Obj} {es : List DictEntry} {ep k : Nat} {n : Int} {t : Tok} {v : Value} (hn : ∀ e ∈ es, e.hash ≠ hashInt n) (hA : n₀ ≤ A.length) (hz : es.length < 1000) :
    Does p w n₀ ann (dictSet A.length (.int n t) v) (stt s life (A ++ dObj es ep :: B) k) (stt s life (A ++ dObj (es ++ [⟨hashInt n, .int n t, v⟩]) (ep + 1) :: B) (k + 1)) () 10 := by
  unfold dictSet
  refine Does.holding (Does.bind (n := 5) (m := 5) Does.hash ?_)
  unfold dictSetHashed
  refine Does.holding (Does.bind (n := 1) (m := 4) (Does.find hn) ?_)
  exact Does.bind (n := 1) (m := 3) .rule (Does.updateKeys hA hz)
theorem Does.putNew {s : Shared} {life : Life} {A B : List Obj} {es : List DictEntry} {ep k : Nat} {n : Int} {t : Tok} {v : Value} (hn : ∀ e ∈ es, e.hash ≠ hashInt n) (hA : n₀ ≤ A.length) (hz : es.length < 1000) :
    Does p w n₀ ann (dictPut A.length (hashInt n) (.int n t) v) (stt s life (A ++ dObj es ep :: B) k) (stt s life (A ++ dObj (es ++ [⟨hashInt n, .int n t, v⟩]) (ep + 1) :: B) k) () 4 := by
  unfold dictPut
  refine Does.bind (n := 1) (m := 3) (Does.find hn) (Does.updateKeys hA hz)
end
end Mine

end
section
open PySem PySem.Calls PyProof.Rows PySem.W
namespace Mine
section
variable {p : Program} {w : World} {n₀ : Nat} {ann : Option Value} {α β : Type}
theorem Does.forNil {f : α → β → Sem (ForInStep β)} {b : β} {s : Shared} : Does p w n₀ ann (forIn ([] : List α) b f) s s b 0 := .pur
theorem Does.forCons {f : α → β → Sem (ForInStep β)} {x : α} {xs : List α} {b b' c : β} {s s1 s2 : Shared} {n m : Nat} (h1 : Does p w n₀ ann (f x b) s s1 (.yield b') n) (h2 : Does p w n₀ ann (forIn xs b' f) s1 s2 c m) :
    Does p w n₀ ann (forIn (x :: xs) b f) s s2 c (n + m) := by
  rw [List.forIn_cons]
  exact Does.bind h1 h2
structure PairT (p : Program) (w : World) (n₀ : Nat) (ann : Option Value) (kv : Sem Value × Sem Value) (x : Int × Str) : Prop where
  key : ∀ s, Does p w n₀ ann kv.1 s { s with toks := s.toks + 1 } (.int x.1 s.toks) 1
  val : ∀ s, Does p w n₀ ann kv.2 s { s with toks := s.toks + 1 } (.str x.2 s.toks) 2
inductive PairsT (p : Program) (w : World) (n₀ : Nat) (ann : Option Value) : List (Sem Value × Sem Value) → List (Int × Str) → Prop
  | nil : PairsT p w n₀ ann [] []
  | cons {kv x kvs xs} : PairT p w n₀ ann kv x → PairsT p w n₀ ann kvs xs → PairsT p w n₀ ann (kv :: kvs) (x :: xs)
theorem PairsT.len {kvs : List (Sem Value × Sem Value)} {xs : List (Int × Str)} (h : PairsT p w n₀ ann kvs xs) : kvs.length = xs.length := by
  induction h with
  | nil => rfl
  | cons _ _ ih => simp [ih]
theorem PairsT.snoc {kvs : List (Sem Value × Sem Value)} {xs : List (Int × Str)} {kv : Sem Value × Sem Value} {x : Int × Str} (h : PairsT p w n₀ ann kvs xs) (hx : PairT p w n₀ ann kv x) : PairsT p w n₀ ann (kvs ++ [kv]) (xs ++ [x]) := by
  induction h with
  | nil => exact .cons hx .nil
  | cons a _ ih => exact .cons a ih
noncomputable def ents : Nat → List (Int × Str) → List DictEntry
  | _, [] => []
  | T, x :: r => ⟨hashInt x.1, .int x.1 T, .str x.2 (T + 1)⟩ :: ents (T + 3) r
theorem ents_len : ∀ (T : Nat) (xs : List (Int × Str)), (ents T xs).length = xs.length
  | _, [] => rfl
  | T, x :: r => by simp [ents, ents_len (T + 3) r]
noncomputable def hashes (es : List DictEntry) (xs : List (Int × Str)) : List Int := es.map (·.hash) ++ xs.map fun x => hashInt x.1
theorem ents_hash : ∀ (T : Nat) (xs : List (Int × Str)), (ents T xs).map (·.hash) = xs.map fun x => hashInt x.1
  | _, [] => rfl
  | T, x :: r => by simp [ents, ents_hash (T + 3) r]
theorem hashes_new {es : List DictEntry} {x : Int × Str} {xs : List (Int × Str)} (h : (hashes es (x :: xs)).Nodup) : ∀ e ∈ es, e.hash ≠ hashInt x.1 := fun e he q => by
  unfold hashes at h
  rw [List.nodup_append] at h
  exact h.2.2 e.hash (List.mem_map_of_mem he) (hashInt x.1) (by simp) q
theorem hashes_next {es : List DictEntry} {x : Int × Str} {xs : List (Int × Str)} {e : DictEntry} (h : (hashes es (x :: xs)).Nodup) (he : e.hash = hashInt x.1) : (hashes (es ++ [e]) xs).Nodup := by
  unfold hashes at h ⊢
  simpa [he] using h
theorem Does.fill {s : Shared} {life : Life} {A : List Obj} {f : Sem Value × Sem Value → PUnit → Sem (ForInStep PUnit)}
    (hf : ∀ kv u, f kv u = (do let kv' ← kv.1; let vv ← PySem.holding [kv'] kv.2; PySem.holding [kv', vv] (dictSet A.length kv' vv); Pure.pure (.yield ⟨⟩))) (hA : n₀ ≤ A.length) :
    ∀ {kvs : List (Sem Value × Sem Value)} {xs : List (Int × Str)}, PairsT p w n₀ ann kvs xs → ∀ (es : List DictEntry) (ep k : Nat), (hashes es xs).Nodup → es.length + xs.length < 1000 →
      Does p w n₀ ann (forIn kvs PUnit.unit f) (stt s life (A ++ [dObj es ep]) k) (stt s life (A ++ [dObj (es ++ ents k xs) (ep + xs.length)]) (k + 3 * xs.length)) ⟨⟩ (13 * xs.length) := by
  intro kvs xs h
  induction h with
  | nil => intro es ep k _ _; rw [show ents k [] = [] from rfl, List.append_nil]; exact .forNil
  | @cons kv x kvs xs hx _ ih =>
    intro es ep k hn hz
    rw [List.length_cons] at hz
    have := ih (es ++ [⟨hashInt x.1, .int x.1 k, .str x.2 (k + 1)⟩]) (ep + 1) (k + 3) (hashes_next hn rfl) (by simp; lia)
    rw [show 13 * (x :: xs).length = 13 + 13 * xs.length by simp; lia]
    refine Does.forCons (b' := ⟨⟩) (s1 := stt s life (A ++ [dObj (es ++ [⟨hashInt x.1, .int x.1 k, .str x.2 (k + 1)⟩]) (ep + 1)]) (k + 3)) ?_ ?_
    · rw [hf]
      refine Does.bind (n := 1) (m := 12) (hx.key _) (Does.bind (n := 2) (m := 10) (Does.holding (hx.val _)) (Does.bind (n := 10) (m := 0) (Does.holding (Does.setNew (k := k + 1 + 1) (B := []) (hashes_new hn) hA (by lia))) .pur))
    · rw [show es ++ ents k (x :: xs) = es ++ [⟨hashInt x.1, .int x.1 k, .str x.2 (k + 1)⟩] ++ ents (k + 3) xs by simp [ents], show ep + (x :: xs).length = ep + 1 + xs.length by simp; lia, show k + 3 * (x :: xs).length = k + 3 + 3 * xs.length by simp; lia]
      exact this
theorem Does.sub {s : Shared} {life : Life} {A : List Obj} {k : Nat} {kvs : List (Sem Value × Sem Value)} {xs : List (Int × Str)} (h : PairsT p w n₀ ann kvs xs) (hl : 15 < xs.length) (hz : xs.length < 1000) (hn : (xs.map fun x => hashInt x.1).Nodup) (hA : n₀ ≤ A.length) :
    Does p w n₀ ann (subDict kvs) (stt s life A k) (stt s life (A ++ [dObj (ents k xs) xs.length]) (k + 3 * xs.length)) A.length (2 + 13 * xs.length) := by
  unfold subDict
  rw [show 2 + 13 * xs.length = 1 + (1 + (13 * xs.length)) by lia]
  have ha := Does.alloc (p := p) (w := w) (n₀ := n₀) (ann := ann) (o := { cls := .type "dict", data := .dict #[] }) (s := stt s life A k)
  rw [show ({ stt s life A k with heap := (stt s life A k).heap.push { cls := .type "dict", data := .dict #[] } } : Shared) = stt s life (A ++ [dObj [] 0]) k from by
    show ({ s with heap := (hp life A).push _, toks := k } : Shared) = _
    rw [hp_push]; rfl, show (stt s life A k).heap.objs.size = A.length from hp_size] at ha
  refine Does.bind (n := 1) (m := 1 + 13 * xs.length) ha ?_
  refine Does.bind (n := 1 + 13 * xs.length) (m := 0) (a := ()) (Does.holding ?_) .pur
  rw [if_neg (by rw [h.len]; lia)]
  refine Does.bind (n := 1) (m := 13 * xs.length) .rule ?_
  have e1 : dObj (ents k xs) xs.length = dObj ([] ++ ents k xs) (0 + xs.length) := by rw [List.nil_append, Nat.zero_add]
  rw [e1]
  exact Does.bind (n := 13 * xs.length) (m := 0) (Does.fill (fun kv u => by obtain ⟨a, b⟩ := kv; rfl) hA h [] 0 k (by simpa [hashes] using hn) (by simpa using hz)) .pur
end
end Mine

end
section
open PySem PySem.Calls PyProof.Rows PySem.W
namespace Mine
section
variable {p : Program} {w : World} {n₀ : Nat} {ann : Option Value} {α β : Type}
theorem two_views {A subs : List Obj} {M S : Obj} : A ++ M :: (subs ++ [S]) = (A ++ M :: subs) ++ S :: [] := by simp
theorem Does.entriesS {s : Shared} {life : Life} {A subs : List Obj} {ms es : List DictEntry} {em ep k C : Nat} {part : Option Value} (hC : C = A.length + 1 + subs.length) :
    Does p w n₀ ann (dictEntries C part) (stt s life (A ++ dObj ms em :: (subs ++ [dObj es ep])) k) (stt s life (A ++ dObj ms em :: (subs ++ [dObj es ep])) k) es.toArray 1 := by
  rw [two_views, show C = (A ++ dObj ms em :: subs).length by simp; lia]
  exact .entries
theorem Does.epochS {s : Shared} {life : Life} {A subs : List Obj} {ms es : List DictEntry} {em ep k C : Nat} {part : Option Value} (hC : C = A.length + 1 + subs.length) :
    Does p w n₀ ann (dictEpoch C part) (stt s life (A ++ dObj ms em :: (subs ++ [dObj es ep])) k) (stt s life (A ++ dObj ms em :: (subs ++ [dObj es ep])) k) ep 1 := by
  rw [two_views, show C = (A ++ dObj ms em :: subs).length by simp; lia]
  exact .epoch
theorem getS {life : Life} {A subs : List Obj} {ms es : List DictEntry} {em ep C : Nat} (hC : C = A.length + 1 + subs.length) : (hp life (A ++ dObj ms em :: (subs ++ [dObj es ep]))).get? C = some (dObj es ep) := by
  rw [two_views, show C = (A ++ dObj ms em :: subs).length by simp; lia]
  exact hp_get
noncomputable def IntEnt (e : DictEntry) : Prop := ∃ n t, e.hash = hashInt n ∧ e.key = .int n t
theorem ents_int : ∀ (T : Nat) (xs : List (Int × Str)), ∀ e ∈ ents T xs, IntEnt e
  | _, [], _, h => by cases h
  | T, x :: r, e, h => by
    rcases List.mem_cons.mp h with rfl | h
    · exact ⟨_, _, rfl, rfl⟩
    · exact ents_int (T + 3) r e h
theorem Does.mergeLoop {s : Shared} {life : Life} {A subs : List Obj} {es : List DictEntry} {ep k C : Nat} (hC : C = A.length + 1 + subs.length) (hA : n₀ ≤ A.length) {f : Nat → PUnit → Sem (ForInStep PUnit)}
    (hf : ∀ i u (e : DictEntry) (S1 S2 : Shared), es.toArray[i]? = some e → Does p w n₀ ann (dictEntries C) S1 S1 es.toArray 1 → Does p w n₀ ann (dictPut A.length e.hash e.key e.val) S1 S2 () 4 → Does p w n₀ ann (dictEpoch C) S2 S2 ep 1 → Does p w n₀ ann (f i u) S1 S2 (.yield ⟨⟩) 6) :
    ∀ (rest pre ms : List DictEntry) (em : Nat), es = pre ++ rest → (∀ e ∈ rest, IntEnt e) → (ms.map (·.hash) ++ rest.map (·.hash)).Nodup → ms.length + rest.length < 1000 →
      Does p w n₀ ann (forIn (List.range' pre.length rest.length) PUnit.unit f) (stt s life (A ++ dObj ms em :: (subs ++ [dObj es ep])) k) (stt s life (A ++ dObj (ms ++ rest) (em + rest.length) :: (subs ++ [dObj es ep])) k) ⟨⟩ (6 * rest.length)
  | [], pre, ms, em, _, _, _, _ => by rw [List.append_nil]; exact .forNil
  | e :: rest, pre, ms, em, he, hi, hn, hz => by
    rw [List.length_cons] at hz
    obtain ⟨n, t, h1, h2⟩ := hi e List.mem_cons_self
    have hnew : ∀ e' ∈ ms, e'.hash ≠ hashInt n := fun e' he' q => by
      rw [List.nodup_append] at hn
      exact hn.2.2 e'.hash (List.mem_map_of_mem he') e.hash (by simp) (q.trans h1.symm)
    have hent : (⟨hashInt n, .int n t, e.val⟩ : DictEntry) = e := by
      obtain ⟨a, b, c⟩ := e
      dsimp only at h1 h2
      rw [h1, h2]
    have hput := Does.putNew (p := p) (w := w) (n₀ := n₀) (ann := ann) (s := s) (life := life) (A := A) (B := subs ++ [dObj es ep]) (es := ms) (ep := em) (k := k) (n := n) (t := t) (v := e.val) hnew hA (by lia)
    rw [hent, ← h1, ← h2] at hput
    have ih := Does.mergeLoop (s := s) (life := life) (k := k) hC hA hf rest (pre ++ [e]) (ms ++ [e]) (em + 1) (by rw [he]; simp) (fun e' he' => hi e' (List.mem_cons_of_mem _ he')) (by simpa using hn) (by simp; lia)
    rw [show 6 * (e :: rest).length = 6 + 6 * rest.length by simp; lia, List.length_cons, List.range'_succ]
    refine Does.forCons (b' := ⟨⟩) (hf pre.length ⟨⟩ e _ _ ?_ (Does.entriesS hC) hput (Does.epochS hC)) ?_
    · rw [he]; simp
    · rw [show ms ++ e :: rest = ms ++ [e] ++ rest by simp, show em + (rest.length + 1) = em + 1 + rest.length by lia]
      rw [show (pre ++ [e]).length = pre.length + 1 by simp] at ih
      exact ih
theorem Does.typeD {s : Shared} {a : Addr} {es : List DictEntry} {ep : Nat} (h : s.heap.get? a = some (dObj es ep)) : Does p w n₀ ann (typeOf (.ref a)) s s (.type "dict") 1 := by
  simp only [typeOf]
  exact Does.bind (n := 1) (m := 0) (s1 := s) (a := dObj es ep) (Does.loadPart h) .pur
theorem Does.merge {s : Shared} {life : Life} {A subs : List Obj} {es ms : List DictEntry} {em ep k C : Nat} (hC : C = A.length + 1 + subs.length) (hA : n₀ ≤ A.length) (hC1 : C ≠ sysModules) (hms : ms ≠ []) (hi : ∀ e ∈ es, IntEnt e) (hn : (ms.map (·.hash) ++ es.map (·.hash)).Nodup) (hz : ms.length + es.length < 1000) :
    Does p w n₀ ann (mergeMapping A.length (.ref C) false) (stt s life (A ++ dObj ms em :: (subs ++ [dObj es ep])) k) (stt s life (A ++ dObj (ms ++ es) (em + es.length) :: (subs ++ [dObj es ep])) k) () (5 + 6 * es.length) := by
  have hinst : Does p w n₀ ann (isInstance (.ref C) (.type "dict")) (stt s life (A ++ dObj ms em :: (subs ++ [dObj es ep])) k) (stt s life (A ++ dObj ms em :: (subs ++ [dObj es ep])) k) true 1 := by
    unfold isInstance
    exact Does.bind (n := 1) (m := 0) (Does.typeD (getS hC)) (Does.of_eq (by rw [isSubtype_type]; kernel_rfl) .pur)
  have hspec : Does p w n₀ ann (specialOf (.ref C) "__iter__") (stt s life (A ++ dObj ms em :: (subs ++ [dObj es ep])) k) (stt s life (A ++ dObj ms em :: (subs ++ [dObj es ep])) k) (some (.builtin "dict.__iter__")) 1 := by
    unfold specialOf
    exact Does.bind (n := 1) (m := 0) (Does.typeD (getS hC)) (Does.of_eq (by rw [typeLookup_type, builtinLookup_eq_fast]; kernel_rfl) .pur)
  unfold mergeMapping
  rw [show 5 + 6 * es.length = 1 + (1 + (1 + (1 + (1 + 6 * es.length)))) by lia]
  refine Does.bind (n := 1) (m := 1 + (1 + (1 + (1 + 6 * es.length)))) hinst ?_
  · rw [if_pos rfl]
    refine Does.bind (n := 1) (m := 1 + (1 + (1 + 6 * es.length))) hspec ?_
    rw [show (some (Value.builtin "dict.__iter__") == some (Value.builtin "dict.__iter__")) = true from beq_self_eq_true _]
    rw [← Nat.zero_add (1 + (1 + (1 + 6 * es.length)))]
    refine Does.bind (n := 0) (m := 1 + (1 + (1 + 6 * es.length))) .pur ?_
    dsimp only
    rw [if_neg (by simpa using hC1)]
    refine Does.bind (n := 1) (m := 1 + (1 + 6 * es.length)) .entries ?_
    rw [if_neg (by simpa using hms)]
    refine Does.bind (n := 1) (m := 1 + 6 * es.length) (Does.entriesS hC) ?_
    refine Does.bind (n := 1) (m := 6 * es.length) (Does.epochS hC) ?_
    have hl : List.range es.toArray.size = List.range' ([] : List DictEntry).length es.length := by
      rw [List.range_eq_range', List.size_toArray]; rfl
    rw [hl]
    refine Does.bind (n := 6 * es.length) (m := 0) (Does.mergeLoop hC hA (fun i u e S1 S2 he h1 h2 h3 => ?_) es [] ms em rfl hi hn hz) .pur
    refine Does.bind (n := 1) (m := 5) h1 ?_
    rw [he]
    dsimp only
    refine Does.bind (n := 4) (m := 1) (a := ()) (s1 := S2) (Does.holding ?_) ?_
    · rw [if_neg (by decide)]
      exact h2
    · refine Does.bind (n := 1) (m := 0) h3 ?_
      rw [if_neg (by simp)]
      exact .pur
end
end Mine

end
section
open PySem PySem.Calls PyProof.Rows PySem.W
namespace Mine
section
variable {p : Program} {w : World} {n₀ : Nat} {ann : Option Value} {α β : Type}
noncomputable def flushD (run : List (Sem Value × Sem Value)) (main : Option Addr) : Sem (Option Addr) := do
  if run.isEmpty then return main
  match main with
  | none => return some (← subDict run)
  | some d =>
    let sub ← PySem.holding [.ref d] (subDict run)
    (PySem.holding [.ref d, .ref sub] (mergeMapping d (.ref sub) false)).onRaise fun x => do let _ ← PySem.holding [.ref d, x] (runValue (.builtin "proto.let_go" {}))
    return some d
structure RS where
  on : Bool
  ms : List DictEntry
  em : Nat
  subs : List Obj
  k : Nat
  run : List (Int × Str)
  n : Nat
noncomputable def rstep (st : RS) (x : Int × Str) : RS :=
  if st.run.length = 16 then
    if st.on then ⟨true, st.ms ++ ents st.k (st.run ++ [x]), st.em + 17, st.subs ++ [dObj (ents st.k (st.run ++ [x])) 17], st.k + 51, [], st.n + 330⟩
    else ⟨true, ents st.k (st.run ++ [x]), 17, [], st.k + 51, [], st.n + 223⟩
  else { st with run := st.run ++ [x] }
noncomputable def RS.objs (st : RS) (A : List Obj) : List Obj := if st.on then A ++ dObj st.ms st.em :: st.subs else A
noncomputable def RS.main (st : RS) (A : List Obj) : Option Addr := if st.on then some A.length else none
noncomputable def RS.hs (st : RS) : List Int := st.ms.map (·.hash) ++ st.run.map fun x => hashInt x.1
theorem Does.flushFirst {s : Shared} {life : Life} {A : List Obj} {k : Nat} {kvs : List (Sem Value × Sem Value)} {xs : List (Int × Str)} (h : PairsT p w n₀ ann kvs xs) (hl : xs.length = 17) (hn : (xs.map fun x => hashInt x.1).Nodup) (hA : n₀ ≤ A.length) :
    Does p w n₀ ann (flushD kvs none) (stt s life A k) (stt s life (A ++ [dObj (ents k xs) 17]) (k + 51)) (some A.length) 223 := by
  unfold flushD
  have hk : kvs.isEmpty = false := by
    have := h.len
    cases kvs with
    | nil => simp at this; lia
    | cons _ _ => rfl
  rw [hk, if_neg (by decide)]
  have := Does.sub (s := s) (life := life) (k := k) h (by lia) (by lia) hn hA
  rw [hl] at this
  exact Does.bind (n := 223) (m := 0) this .pur
theorem Does.flushMore {s : Shared} {life : Life} {A subs : List Obj} {ms : List DictEntry} {em k : Nat} {kvs : List (Sem Value × Sem Value)} {xs : List (Int × Str)} (h : PairsT p w n₀ ann kvs xs) (hl : xs.length = 17) (hA : n₀ ≤ A.length) (hs : sysModules < A.length) (hms : ms ≠ []) (hn : (ms.map (·.hash) ++ xs.map fun x => hashInt x.1).Nodup) (hz : ms.length + 17 < 1000) :
    Does p w n₀ ann (flushD kvs (some A.length)) (stt s life (A ++ dObj ms em :: subs) k) (stt s life (A ++ dObj (ms ++ ents k xs) (em + 17) :: (subs ++ [dObj (ents k xs) 17])) (k + 51)) (some A.length) 330 := by
  unfold flushD
  have hk : kvs.isEmpty = false := by
    have := h.len
    cases kvs with
    | nil => simp at this; lia
    | cons _ _ => rfl
  rw [hk, if_neg (by decide)]
  have hsub := Does.sub (s := s) (life := life) (A := A ++ dObj ms em :: subs) (k := k) h (by lia) (by lia) (List.nodup_append.mp hn).2.1 (by simp; lia)
  rw [hl, show A ++ dObj ms em :: subs ++ [dObj (ents k xs) 17] = A ++ dObj ms em :: (subs ++ [dObj (ents k xs) 17]) by simp] at hsub
  have hC : (A ++ dObj ms em :: subs).length = A.length + 1 + subs.length := by simp; lia
  have hC1 : (A ++ dObj ms em :: subs).length ≠ sysModules := by
    rw [hC]
    exact Nat.ne_of_gt (Nat.lt_of_lt_of_le hs (Nat.le_trans (Nat.le_add_right _ 1) (Nat.le_add_right _ _)))
  have hm := Does.merge (p := p) (w := w) (n₀ := n₀) (ann := ann) (s := s) (life := life) (A := A) (subs := subs) (es := ents k xs) (ms := ms) (em := em) (ep := 17) (k := k + 51) hC hA hC1 hms (ents_int k xs) (by rw [ents_hash]; exact hn) (by rw [ents_len]; lia)
  rw [ents_len, hl] at hm
  exact Does.bind (n := 223) (m := 107) (Does.holding hsub) (Does.bind (n := 107) (m := 0) (Does.onRaise (Does.holding hm)) .pur)
theorem Does.items {s : Shared} {life : Life} {A : List Obj} {f : Option (Sem Value) × Sem Value → (Option Addr × List (Sem Value × Sem Value)) → Sem (ForInStep (Option Addr × List (Sem Value × Sem Value)))}
    (h0 : ∀ kt vt main run S, run.length ≠ 16 → Does p w n₀ ann (f (some kt, vt) ⟨main, run⟩) S S (.yield ⟨main, run ++ [(kt, vt)]⟩) 0)
    (h1 : ∀ kt vt main run S S' m' n, run.length = 16 → Does p w n₀ ann (flushD (run ++ [(kt, vt)]) main) S S' m' n → Does p w n₀ ann (f (some kt, vt) ⟨main, run⟩) S S' (.yield ⟨m', []⟩) n)
    (hA : n₀ ≤ A.length) (hs : sysModules < A.length) :
    ∀ {kvs : List (Sem Value × Sem Value)} {xs : List (Int × Str)}, PairsT p w n₀ ann kvs xs → ∀ (st : RS) (run : List (Sem Value × Sem Value)), PairsT p w n₀ ann run st.run → st.run.length ≤ 16 → (st.on = true → st.ms ≠ []) → (st.on = false → st.ms = []) → (st.hs ++ xs.map fun x => hashInt x.1).Nodup → st.ms.length + st.run.length + xs.length < 900 →
      ∃ run' m, Does p w n₀ ann (forIn (kvs.map fun kv => (some kv.1, kv.2)) (⟨st.main A, run⟩ : Option Addr × List (Sem Value × Sem Value)) f) (stt s life (st.objs A) st.k) (stt s life ((xs.foldl rstep st).objs A) (xs.foldl rstep st).k) ⟨(xs.foldl rstep st).main A, run'⟩ m ∧
        st.n + m = (xs.foldl rstep st).n ∧ PairsT p w n₀ ann run' (xs.foldl rstep st).run := by
  intro kvs xs h
  induction h with
  | nil => intro st run hr _ _ _ _ _; exact ⟨run, 0, .forNil, rfl, hr⟩
  | @cons kv x kvs xs hx _ ih =>
    intro st run hr hl hon hoff hn hz
    rw [List.length_cons] at hz
    rw [List.map_cons, List.foldl_cons]
    by_cases h16 : st.run.length = 16
    · have hrl : run.length = 16 := by rw [hr.len, h16]
      have hc : PairsT p w n₀ ann (run ++ [(kv.1, kv.2)]) (st.run ++ [x]) := hr.snoc hx
      have hcl : (st.run ++ [x]).length = 17 := by simp [h16]
      cases hst : st.on with
      | false =>
        have hms : st.ms = [] := hoff hst
        have hnx : ((st.run ++ [x]).map fun x => hashInt x.1).Nodup ∧ (((st.run ++ [x]).map fun x => hashInt x.1) ++ xs.map fun x => hashInt x.1).Nodup := by
          unfold RS.hs at hn
          rw [hms] at hn
          have : (((st.run ++ [x]).map fun x => hashInt x.1) ++ xs.map fun x => hashInt x.1).Nodup := by simpa using hn
          exact ⟨(List.nodup_append.mp this).1, this⟩
        have hst' : rstep st x = ⟨true, ents st.k (st.run ++ [x]), 17, [], st.k + 51, [], st.n + 223⟩ := by
          unfold rstep; rw [if_pos h16, hst]; simp
        have ihx := ih (rstep st x) [] (by rw [hst']; exact .nil) (by rw [hst']; simp) (by
          rw [hst']
          intro _ e
          have := congrArg List.length e
          rw [ents_len, hcl] at this
          simp at this) (by rw [hst']; intro e; cases e) (by
          rw [hst']
          unfold RS.hs
          rw [ents_hash, List.map_nil, List.append_nil]
          exact hnx.2) (by
          rw [hst']
          dsimp only
          rw [ents_len, hcl]
          have := congrArg List.length hms
          simp at this
          simp
          lia)
        walk_at "open"
        obtain ⟨run', m, hd, hm, hp⟩ := ihx
        walk_at "shut"
        refine ⟨run', 223 + m, Does.forCons (h1 kv.1 kv.2 (st.main A) run (stt s life (st.objs A) st.k) (stt s life ((rstep st x).objs A) (rstep st x).k) ((rstep st x).main A) 223 hrl ?_) hd, ?_, hp⟩
        · have := Does.flushFirst (s := s) (life := life) (k := st.k) hc hcl hnx.1 hA
          rw [hst']
          unfold RS.main RS.objs
          rw [hst]
          exact this
        · rw [hst'] at hm ⊢
          dsimp only at hm
          lia
      | true =>
        have hms := hon hst
        have hn1 : (st.ms.map (·.hash) ++ (st.run ++ [x]).map fun x => hashInt x.1).Nodup ∧ ((st.ms.map (·.hash) ++ (st.run ++ [x]).map fun x => hashInt x.1) ++ xs.map fun x => hashInt x.1).Nodup := by
          unfold RS.hs at hn
          have : ((st.ms.map (·.hash) ++ (st.run ++ [x]).map fun x => hashInt x.1) ++ xs.map fun x => hashInt x.1).Nodup := by simpa using hn
          exact ⟨(List.nodup_append.mp this).1, this⟩
        have hst' : rstep st x = ⟨true, st.ms ++ ents st.k (st.run ++ [x]), st.em + 17, st.subs ++ [dObj (ents st.k (st.run ++ [x])) 17], st.k + 51, [], st.n + 330⟩ := by
          unfold rstep; rw [if_pos h16, hst]; simp
        have ihx := ih (rstep st x) [] (by rw [hst']; exact .nil) (by rw [hst']; simp) (by
          rw [hst']
          intro _ e
          exact hms (List.append_eq_nil_iff.mp e).1) (by rw [hst']; intro e; cases e) (by
          rw [hst']
          unfold RS.hs
          rw [List.map_append, ents_hash, List.map_nil, List.append_nil]
          exact hn1.2) (by
          rw [hst']
          dsimp only
          rw [List.length_append, ents_len, hcl]
          simp
          lia)
        walk_at "open"
        obtain ⟨run', m, hd, hm, hp⟩ := ihx
        walk_at "shut"
        refine ⟨run', 330 + m, Does.forCons (h1 kv.1 kv.2 (st.main A) run (stt s life (st.objs A) st.k) (stt s life ((rstep st x).objs A) (rstep st x).k) ((rstep st x).main A) 330 hrl ?_) hd, ?_, hp⟩
        · have := Does.flushMore (s := s) (life := life) (subs := st.subs) (em := st.em) (k := st.k) hc hcl hA hs hms hn1.1 (by lia)
          rw [hst']
          unfold RS.main RS.objs
          rw [hst]
          exact this
        · rw [hst'] at hm ⊢
          dsimp only at hm
          lia
    · have hst' : rstep st x = { st with run := st.run ++ [x] } := by unfold rstep; rw [if_neg h16]
      have hrl : run.length ≠ 16 := by rw [hr.len]; exact h16
      have ihx := ih (rstep st x) (run ++ [(kv.1, kv.2)]) (by rw [hst']; exact hr.snoc hx) (by rw [hst']; simp; lia) (by rw [hst']; exact hon) (by rw [hst']; exact hoff) (by
        rw [hst']
        unfold RS.hs at hn ⊢
        simpa using hn) (by rw [hst']; simp; lia)
      walk_at "open"
      obtain ⟨run', m, hd, hm, hp⟩ := ihx
      walk_at "shut"
      refine ⟨run', 0 + m, Does.forCons (h0 kv.1 kv.2 (st.main A) run _ hrl) ?_, ?_, hp⟩
      · rw [hst'] at hd ⊢
        exact hd
      · rw [hst'] at hm ⊢
        dsimp only at hm
        lia
end
end Mine

end
section
open PySem PySem.Calls PyProof.Rows PySem.W
namespace Mine
section
variable {p : Program} {w : World} {n₀ : Nat} {ann : Option Value} {α β : Type}
noncomputable def entsS : Nat → Nat → List (Int × Str) → List DictEntry
  | _, _, [] => []
  | T, U, x :: r => ⟨hashInt x.1, .int x.1 T, .str x.2 (T + 1)⟩ :: entsS (T + 2) U r
noncomputable def pvs : Nat → List (Int × Str) → List (Value × Value)
  | _, [] => []
  | T, x :: r => (.int x.1 T, .str x.2 (T + 1)) :: pvs (T + 2) r
theorem entsS_len : ∀ (T U : Nat) (xs : List (Int × Str)), (entsS T U xs).length = xs.length
  | _, _, [] => rfl
  | T, U, x :: r => by simp [entsS, entsS_len (T + 2) U r]
theorem entsS_hash : ∀ (T U : Nat) (xs : List (Int × Str)), (entsS T U xs).map (·.hash) = xs.map fun x => hashInt x.1
  | _, _, [] => rfl
  | T, U, x :: r => by simp [entsS, entsS_hash (T + 2) U r]
theorem entsS_int : ∀ (T U : Nat) (xs : List (Int × Str)), ∀ e ∈ entsS T U xs, IntEnt e
  | _, _, [], _, h => by cases h
  | T, U, x :: r, e, h => by
    rcases List.mem_cons.mp h with rfl | h
    · exact ⟨_, _, rfl, rfl⟩
    · exact entsS_int (T + 2) U r e h
theorem Does.evalPairs {s : Shared} {life : Life} {l : List Obj} : ∀ {kvs : List (Sem Value × Sem Value)} {xs : List (Int × Str)}, PairsT p w n₀ ann kvs xs → ∀ k : Nat, Does p w n₀ ann (PySem.evalPairs kvs) (stt s life l k) (stt s life l (k + 2 * xs.length)) (pvs k xs) (3 * xs.length) := by
  intro kvs xs h
  induction h with
  | nil => intro k; exact .pur
  | @cons kv x kvs xs hx _ ih =>
    intro k
    obtain ⟨a, b⟩ := kv
    have := ih (k + 2)
    rw [show 3 * (x :: xs).length = 1 + (2 + 3 * xs.length) by simp; lia, show k + 2 * (x :: xs).length = k + 2 + 2 * xs.length by simp; lia]
    unfold PySem.evalPairs
    exact Does.bind (n := 1) (m := 2 + 3 * xs.length) (hx.key _) (Does.bind (n := 2) (m := 3 * xs.length) (Does.holding (hx.val _)) (Does.bind (n := 3 * xs.length) (m := 0) (Does.holding this) .pur))
theorem Does.fillS {s : Shared} {life : Life} {A : List Obj} {f : Value × Value → PUnit → Sem (ForInStep PUnit)}
    (hf : ∀ kv u, f kv u = (do dictSet A.length kv.1 kv.2; Pure.pure (.yield ⟨⟩))) (hA : n₀ ≤ A.length) :
    ∀ (xs : List (Int × Str)) (T U : Nat) (es : List DictEntry) (ep k : Nat), (hashes es xs).Nodup → es.length + xs.length < 1000 →
      Does p w n₀ ann (forIn (pvs T xs) PUnit.unit f) (stt s life (A ++ [dObj es ep]) k) (stt s life (A ++ [dObj (es ++ entsS T U xs) (ep + xs.length)]) (k + xs.length)) ⟨⟩ (10 * xs.length)
  | [], T, U, es, ep, k, _, _ => by rw [show entsS T U [] = [] from rfl, List.append_nil]; exact .forNil
  | x :: xs, T, U, es, ep, k, hn, hz => by
    rw [List.length_cons] at hz
    have := Does.fillS (s := s) (life := life) hf hA xs (T + 2) U (es ++ [⟨hashInt x.1, .int x.1 T, .str x.2 (T + 1)⟩]) (ep + 1) (k + 1) (hashes_next hn rfl) (by simp; lia)
    rw [show 10 * (x :: xs).length = 10 + 10 * xs.length by simp; lia]
    refine Does.forCons (b' := ⟨⟩) (s1 := stt s life (A ++ [dObj (es ++ [⟨hashInt x.1, .int x.1 T, .str x.2 (T + 1)⟩]) (ep + 1)]) (k + 1)) ?_ ?_
    · rw [hf]
      exact Does.bind (n := 10) (m := 0) (Does.setNew (B := []) (hashes_new hn) hA (by lia)) .pur
    · rw [show es ++ entsS T U (x :: xs) = es ++ [⟨hashInt x.1, .int x.1 T, .str x.2 (T + 1)⟩] ++ entsS (T + 2) U xs by simp [entsS], show ep + (x :: xs).length = ep + 1 + xs.length by simp; lia, show k + (x :: xs).length = k + 1 + xs.length by simp; lia]
      exact this
theorem Does.subS {s : Shared} {life : Life} {A : List Obj} {k : Nat} {kvs : List (Sem Value × Sem Value)} {xs : List (Int × Str)} (h : PairsT p w n₀ ann kvs xs) (hl : xs.length ≤ 15) (hn : (xs.map fun x => hashInt x.1).Nodup) (hA : n₀ ≤ A.length) :
    Does p w n₀ ann (subDict kvs) (stt s life A k) (stt s life (A ++ [dObj (entsS k 0 xs) xs.length]) (k + 3 * xs.length)) A.length (1 + 13 * xs.length) := by
  unfold subDict
  have ha := Does.alloc (p := p) (w := w) (n₀ := n₀) (ann := ann) (o := { cls := .type "dict", data := .dict #[] }) (s := stt s life A k)
  rw [show ({ stt s life A k with heap := (stt s life A k).heap.push { cls := .type "dict", data := .dict #[] } } : Shared) = stt s life (A ++ [dObj [] 0]) k from by
    show ({ s with heap := (hp life A).push _, toks := k } : Shared) = _
    rw [hp_push]; rfl, show (stt s life A k).heap.objs.size = A.length from hp_size] at ha
  refine Does.bind (n := 1) (m := 13 * xs.length) ha ?_
  refine Does.bind (n := 13 * xs.length) (m := 0) (a := ()) (Does.holding ?_) .pur
  rw [if_pos (by rw [h.len]; exact hl)]
  rw [show 13 * xs.length = 3 * xs.length + 10 * xs.length by lia]
  refine Does.bind (n := 3 * xs.length) (m := 10 * xs.length) (Does.evalPairs h k) ?_
  have e1 : dObj (entsS k 0 xs) xs.length = dObj ([] ++ entsS k 0 xs) (0 + xs.length) := by rw [List.nil_append, Nat.zero_add]
  have e2 : k + 3 * xs.length = k + 2 * xs.length + xs.length := by lia
  rw [e1, e2]
  exact Does.holding (Does.bind (n := 10 * xs.length) (m := 0) (Does.fillS (fun kv u => by obtain ⟨a, b⟩ := kv; rfl) hA xs k 0 [] 0 _ (by simpa [hashes] using hn) (by simp; lia)) .pur)
theorem Does.flushLast {s : Shared} {life : Life} {A subs : List Obj} {ms : List DictEntry} {em k : Nat} {kvs : List (Sem Value × Sem Value)} {xs : List (Int × Str)} (h : PairsT p w n₀ ann kvs xs) (hl0 : xs ≠ []) (hl : xs.length ≤ 15) (hA : n₀ ≤ A.length) (hs : sysModules < A.length) (hms : ms ≠ []) (hn : (ms.map (·.hash) ++ xs.map fun x => hashInt x.1).Nodup) (hz : ms.length + 15 < 1000) :
    Does p w n₀ ann (flushD kvs (some A.length)) (stt s life (A ++ dObj ms em :: subs) k) (stt s life (A ++ dObj (ms ++ entsS k 0 xs) (em + xs.length) :: (subs ++ [dObj (entsS k 0 xs) xs.length])) (k + 3 * xs.length)) (some A.length) (1 + 13 * xs.length + (5 + 6 * xs.length)) := by
  unfold flushD
  have hk : kvs.isEmpty = false := by
    have := h.len
    cases kvs with
    | nil => exact absurd (List.length_eq_zero_iff.mp this.symm) hl0
    | cons _ _ => rfl
  rw [hk, if_neg (by decide)]
  have hsub := Does.subS (s := s) (life := life) (A := A ++ dObj ms em :: subs) (k := k) h hl (List.nodup_append.mp hn).2.1 (by simp; lia)
  rw [show A ++ dObj ms em :: subs ++ [dObj (entsS k 0 xs) xs.length] = A ++ dObj ms em :: (subs ++ [dObj (entsS k 0 xs) xs.length]) by simp] at hsub
  have hC : (A ++ dObj ms em :: subs).length = A.length + 1 + subs.length := by simp; lia
  have hC1 : (A ++ dObj ms em :: subs).length ≠ sysModules := by
    rw [hC]
    exact Nat.ne_of_gt (Nat.lt_of_lt_of_le hs (Nat.le_trans (Nat.le_add_right _ 1) (Nat.le_add_right _ _)))
  have hm := Does.merge (p := p) (w := w) (n₀ := n₀) (ann := ann) (s := s) (life := life) (A := A) (subs := subs) (es := entsS k 0 xs) (ms := ms) (em := em) (ep := xs.length) (k := k + 3 * xs.length) hC hA hC1 hms (entsS_int k 0 xs) (by rw [entsS_hash]; exact hn) (by rw [entsS_len]; lia)
  rw [entsS_len] at hm
  exact Does.bind (n := 1 + 13 * xs.length) (m := 5 + 6 * xs.length) (Does.holding hsub) (Does.bind (n := 5 + 6 * xs.length) (m := 0) (Does.onRaise (Does.holding hm)) .pur)
noncomputable def fin (k : Nat) (xs : List (Int × Str)) : RS := xs.foldl rstep ⟨false, [], 0, [], k, [], 0⟩
noncomputable def finMs (k : Nat) (xs : List (Int × Str)) : List DictEntry := (fin k xs).ms ++ entsS (fin k xs).k 0 (fin k xs).run
noncomputable def finSubs (k : Nat) (xs : List (Int × Str)) : List Obj := (fin k xs).subs ++ [dObj (entsS (fin k xs).k 0 (fin k xs).run) (fin k xs).run.length]
theorem hs_fold : ∀ (xs : List (Int × Str)) (st : RS), (st.on = false → st.ms = []) → (xs.foldl rstep st).hs = st.hs ++ xs.map fun x => hashInt x.1
  | [], st, _ => by simp
  | x :: xs, st, h => by
    rw [List.foldl_cons, hs_fold xs (rstep st x) (by
      unfold rstep
      split
      · split
        · intro e; cases e
        · intro e; cases e
      · exact h)]
    have : (rstep st x).hs = st.hs ++ [hashInt x.1] := by
      unfold rstep RS.hs
      split
      · split
        · simp [ents_hash]
        · rename_i e
          rw [h (by simpa using e)]
          simp [ents_hash]
      · simp
    rw [this]
    simp
theorem Does.loopThen {s : Shared} {life : Life} {A : List Obj} {k : Nat} {kvs : List (Sem Value × Sem Value)} {xs : List (Int × Str)} {f : Option (Sem Value) × Sem Value → (Option Addr × List (Sem Value × Sem Value)) → Sem (ForInStep (Option Addr × List (Sem Value × Sem Value)))}
    {g : Option Addr × List (Sem Value × Sem Value) → Sem Value} {S2 : Shared} {v : Value} {n' : Nat} (h : PairsT p w n₀ ann kvs xs) (hA : n₀ ≤ A.length) (hs : sysModules < A.length) (hn : (xs.map fun x => hashInt x.1).Nodup) (hz : xs.length < 900)
    (hon : (fin k xs).on = true)
    (h0 : ∀ kt vt main run S, run.length ≠ 16 → Does p w n₀ ann (f (some kt, vt) (main, run)) S S (.yield (main, run ++ [(kt, vt)])) 0)
    (h1 : ∀ kt vt main run S S' m' n, run.length = 16 → Does p w n₀ ann (flushD (run ++ [(kt, vt)]) main) S S' m' n → Does p w n₀ ann (f (some kt, vt) (main, run)) S S' (.yield (m', [])) n)
    (hg : ∀ run', PairsT p w n₀ ann run' (fin k xs).run → Does p w n₀ ann (g (some A.length, run')) (stt s life (A ++ dObj (fin k xs).ms (fin k xs).em :: (fin k xs).subs) (fin k xs).k) S2 v n') :
    Does p w n₀ ann (forIn (kvs.map fun kv => (some kv.1, kv.2)) ((none, []) : Option Addr × List (Sem Value × Sem Value)) f >>= g) (stt s life A k) S2 v ((fin k xs).n + n') := by
  obtain ⟨run', m, hd, hm, hp⟩ := Does.items (p := p) (w := w) (n₀ := n₀) (ann := ann) (s := s) (life := life) (A := A) (f := f) h0 h1 hA hs h ⟨false, [], 0, [], k, [], 0⟩ [] .nil (by simp) (by intro e; cases e) (fun _ => rfl) (by simpa [RS.hs] using hn) (by simpa using hz)
  have e1 : (xs.foldl rstep ⟨false, [], 0, [], k, [], 0⟩) = fin k xs := rfl
  rw [e1] at hd hm hp
  rw [show (fin k xs).n = m by rw [← hm]; simp]
  rw [show (fin k xs).objs A = A ++ dObj (fin k xs).ms (fin k xs).em :: (fin k xs).subs by unfold RS.objs; rw [hon]; rfl, show (fin k xs).main A = some A.length by unfold RS.main; rw [hon]; rfl] at hd
  exact Does.bind hd (hg run' hp)
theorem Does.display {s : Shared} {life : Life} {A : List Obj} {k : Nat} {kvs : List (Sem Value × Sem Value)} {xs : List (Int × Str)} (h : PairsT p w n₀ ann kvs xs) (hA : n₀ ≤ A.length) (hs : sysModules < A.length) (hn : (xs.map fun x => hashInt x.1).Nodup) (hz : xs.length < 900)
    (hon : (fin k xs).on = true) (h1 : (fin k xs).ms ≠ []) (h2 : (fin k xs).run ≠ []) (h3 : (fin k xs).run.length ≤ 15) (h4 : (fin k xs).ms.length < 900) :
    Does p w n₀ ann (dictDisplay (kvs.map fun kv => (some kv.1, kv.2))) (stt s life A k) (stt s life (A ++ dObj (finMs k xs) ((fin k xs).em + (fin k xs).run.length) :: finSubs k xs) ((fin k xs).k + 3 * (fin k xs).run.length)) (.ref A.length)
      ((fin k xs).n + (1 + 13 * (fin k xs).run.length + (5 + 6 * (fin k xs).run.length))) := by
  unfold dictDisplay
  have hhs : ((fin k xs).ms.map (·.hash) ++ (fin k xs).run.map fun x => hashInt x.1).Nodup := by
    have := hs_fold xs ⟨false, [], 0, [], k, [], 0⟩ (fun _ => rfl)
    unfold RS.hs at this
    rw [show (xs.foldl rstep ⟨false, [], 0, [], k, [], 0⟩) = fin k xs from rfl] at this
    rw [this]
    simpa using hn
  refine Does.loopThen h hA hs hn hz hon (fun kt vt main run S hr => ?_) (fun kt vt main run S S' m' n hr hf => ?_) (fun run' hp => ?_)
  · dsimp only
    rw [if_neg (by simp; lia)]
    exact .pur
  · dsimp only
    rw [if_pos (by simp [hr])]
    exact Does.bind (n := n) (m := 0) hf .pur
  · dsimp only
    rw [← Nat.add_zero (1 + 13 * (fin k xs).run.length + (5 + 6 * (fin k xs).run.length))]
    exact Does.bind (m := 0) (Does.flushLast hp h2 h3 hA hs h1 hhs (by lia)) .pur
inductive Lit : List (Option Expr) → List Expr → List (Int × Str) → Prop
  | nil : Lit [] [] []
  | cons {n : Int} {x : Str} {a c : Nat} {b d : Pos} {ks : List (Option Expr)} {vs : List Expr} {xs : List (Int × Str)} (h : Lit ks vs xs) : Lit (some (.Constant (.int n) a b) :: ks) (.Constant (.str x) c d :: vs) ((n, x) :: xs)
noncomputable def litKey (k : Option Expr) : Option { n : Int // ∃ a b, k = some (.Constant (.int n) a b) } := match k with
  | some e => if h : e.ctorIdx = 19 then Expr.Constant.elim (motive_1 := fun e => Option { n : Int // ∃ a b, some e = some (.Constant (.int n) a b) }) e h fun c a b => match c with | .int n => some ⟨n, a, b, rfl⟩ | _ => none else none
  | none => none
noncomputable def litVal (v : Expr) : Option { x : Str // ∃ a b, v = .Constant (.str x) a b } := if h : v.ctorIdx = 19 then Expr.Constant.elim (motive_1 := fun v => Option { x : Str // ∃ a b, v = .Constant (.str x) a b }) v h fun c a b => match c with | .str x => some ⟨x, a, b, rfl⟩ | _ => none else none
theorem Lit.next {k : Option Expr} {v : Expr} {n : Int} {x : Str} {ks : List (Option Expr)} {vs : List Expr} {xs : List (Int × Str)} : (∃ a b, k = some (.Constant (.int n) a b)) → (∃ a b, v = .Constant (.str x) a b) → Lit ks vs xs → Lit (k :: ks) (v :: vs) ((n, x) :: xs) := by
  rintro ⟨_, _, rfl⟩ ⟨_, _, rfl⟩ h
  exact .cons h
noncomputable def litPairs : (ks : List (Option Expr)) → (vs : List Expr) → Option { xs : List (Int × Str) // Lit ks vs xs }
  | [], [] => some ⟨[], .nil⟩
  | k :: ks, v :: vs => (litKey k).bind fun n => (litVal v).bind fun x => (litPairs ks vs).bind fun r => some ⟨(n.1, x.1) :: r.1, .next n.2 x.2 r.2⟩
  | [], _ :: _ => none
  | _ :: _, [] => none
theorem lit_pairs {env : Env} {pos : Pos} {ks : List (Option Expr)} {vs : List Expr} {xs : List (Int × Str)} (h : Lit ks vs xs) :
    ∃ kvs, (evalEachOpt ks env).zip ((evalEach vs env).map fun v => do let x ← v; PySem.standAt pos; Pure.pure x) = kvs.map (fun kv => (some kv.1, kv.2)) ∧ PairsT p w n₀ ann kvs xs := by
  induction h with
  | nil => exact ⟨[], rfl, .nil⟩
  | @cons n x a c b d ks vs xs _ ih =>
    obtain ⟨kvs, e, hp⟩ := ih
    refine ⟨(eval (.Constant (.int n) a b) env, do let x ← eval (.Constant (.str x) c d) env; PySem.standAt pos; Pure.pure x) :: kvs, (?_ : _ :: _ = _ :: _), .cons ⟨fun s => ?_, fun s => ?_⟩ hp⟩
    · exact congrArg _ e
    · rw [show eval (.Constant (.int n) a b) env = mkInt n from rfl]
      exact Does.bind (n := 1) (m := 0) .fresh .pur
    · refine Does.bind (n := 1) (m := 1) (a := .str x s.toks) (s1 := { s with toks := s.toks + 1 }) ?_ (Does.bind (n := 1) (m := 0) .standAt .pur)
      rw [show eval (.Constant (.str x) c d) env = mkText x from rfl]
      exact Does.bind (n := 1) (m := 0) .fresh .pur
theorem Does.evalDict {s : Shared} {life : Life} {A : List Obj} {k : Nat} {ks : List (Option Expr)} {vs : List Expr} {pos : Pos} {env : Env} {xs : List (Int × Str)} (h : (litPairs ks vs).map (·.1) = some xs) (hA : n₀ ≤ A.length) (hs : sysModules < A.length) (hn : (xs.map fun x => hashInt x.1).Nodup) (hz : xs.length < 900)
    (hon : (fin k xs).on = true) (h1 : (fin k xs).ms ≠ []) (h2 : (fin k xs).run ≠ []) (h3 : (fin k xs).run.length ≤ 15) (h4 : (fin k xs).ms.length < 900) :
    Does p w n₀ ann (eval (.Dict ks vs pos) env) (stt s life A k) (stt s life (A ++ dObj (finMs k xs) ((fin k xs).em + (fin k xs).run.length) :: finSubs k xs) ((fin k xs).k + 3 * (fin k xs).run.length)) (.ref A.length)
      (1 + ((fin k xs).n + (1 + 13 * (fin k xs).run.length + (5 + 6 * (fin k xs).run.length)))) := by
  obtain ⟨r, _, rfl⟩ := Option.map_eq_some_iff.mp h
  obtain ⟨kvs, e, hp⟩ := lit_pairs (p := p) (w := w) (n₀ := n₀) (ann := ann) (env := env) (pos := pos) r.2
  rw [show eval (.Dict ks vs pos) env = (do PySem.standAt pos; dictDisplay ((evalEachOpt ks env).zip ((evalEach vs env).map fun v => do let x ← v; PySem.standAt pos; Pure.pure x))) from rfl, e]
  exact Does.bind (n := 1) .standAt (Does.display hp hA hs hn hz hon h1 h2 h3 h4)
end
end Mine

end
section
open PySem PySem.Calls PyProof.Rows PySem.W
namespace Mine
noncomputable abbrev pw := PySem.Challenge.pw_to0079_01
noncomputable abbrev ann6 : Option Value := some (.ref 6)
noncomputable abbrev BB : List Frame := [topFrame { line := 0, col := 0, endLine := 0, endCol := 0 }]
noncomputable abbrev sK (w : World) (os : OsState) : Shared := ⟨hp {} (A11 w.params), #[], {}, 346, os⟩
noncomputable abbrev sB (w : World) (os : OsState) : Shared := ⟨hp {} (AB w.params), #[], {}, 187, os⟩
noncomputable def sts12 (r : List Stmt) : List Stmt := stm 0 :: stm 1 :: stm 2 :: stm 3 :: stm 4 :: stm 5 :: stm 6 :: stm 7 :: stm 8 :: stm 9 :: stm 10 :: stm 11 :: r
theorem body_is : behindTheImports pw = sts12 (stm 12 :: stm 13 :: stm 14 :: [stm 15, stm 16, stm 17, stm 18, stm 19, stm 20, stm 21, stm 22, stm 23, stm 24, stm 25, stm 26]) := by kernel_rfl
noncomputable abbrev P0 : Pos := { line := 0, col := 0, endLine := 0, endCol := 0 }
noncomputable abbrev PK : Pos := { line := 159, col := 0, endLine := 159, endCol := 8 }
noncomputable abbrev cB : Code := .body (behindTheImports pw) env1
theorem run_pre1 : ∀ (w : World) (os : OsState), topGo treeTable pw w 11 ann6 12 ⟨boot_heap w.params, Array.mk [], boot_drawn, boot_toks, os⟩ (topStub pw) = some (sB w os, ⟨denote treeTable cB, cB, P0, BB⟩) := by
  intro w os
  kernel_rfl
theorem run0 (w : World) (os : OsState) (b rest : List Stmt) : topGo treeTable pw w 11 ann6 592 (sB w os) (restOf (sts12 rest) env1 (.body b env1) P0 BB) = some (sK w os, restOf rest env1 (.body b env1) PK BB) := by
  unfold restOf
  rw [PySem.W.Fast.te15667345088766844465, PySem.W.Fast.te14364793385576792824, PySem.W.Fast.te12563942051412417395]
  kernel_rfl
end Mine

end
section
open PySem PySem.Calls PyProof.Rows PySem.W
namespace Mine
theorem run_blk (w : World) (os : OsState) : segRun treeTable pw w 11 ann6 1 1 (sB w os) (blockOf (behindTheImports pw) env1 cB P0 BB) = some (.next, sB w os, cB, P0) := by kernel_rfl
noncomputable abbrev P13 : Pos := ⟨161, 0, 162, 30⟩
noncomputable abbrev s13 (w : World) (os : OsState) : Shared := ⟨hp {} (A13 w.params), #[], {}, 413, os⟩
noncomputable def Run12 (w : World) : Prop := ∀ (os : OsState) (b rest : List Stmt), topGo treeTable pw w 11 ann6 1027 (sK w os) (restOf (stm 12 :: stm 13 :: rest) env1 (.body b env1) PK BB) = some (s13 w os, restOf rest env1 (.body b env1) P13 BB)
theorem run12a (w : World) : Run12 (w.withFollow "special-get-raises" false) := by
  unfold Run12
  intro os b rest
  unfold restOf
  rw [PySem.W.Fast.te15667345088766844465, PySem.W.Fast.te14364793385576792824, PySem.W.Fast.te12563942051412417395]
  kernel_rfl
end Mine

end
section
open PySem PySem.Calls PyProof.Rows PySem.W
namespace Mine
noncomputable def onAsg {α : Type} (s : Stmt) (d : α) (f : List Expr → Expr → Pos → α) : α := if h : s.ctorIdx = 5 then Stmt.Assign.elim (motive_2 := fun _ => α) s h f else d
noncomputable def asgT (s : Stmt) : List Expr := onAsg s [] fun t _ _ => t
noncomputable def asgV (s : Stmt) : Expr := onAsg s default fun _ v _ => v
noncomputable def asgP (s : Stmt) : Pos := onAsg s default fun _ _ q => q
noncomputable def onDict {α : Type} (e : Expr) (d : α) (f : List (Option Expr) → List Expr → Pos → α) : α := if h : e.ctorIdx = 6 then Expr.Dict.elim (motive_1 := fun _ => α) e h f else d
noncomputable def dictK (e : Expr) : List (Option Expr) := onDict e [] fun k _ _ => k
noncomputable def dictV (e : Expr) : List Expr := onDict e [] fun _ v _ => v
noncomputable def dictP (e : Expr) : Pos := onDict e default fun _ _ q => q
noncomputable abbrev e14 : Expr := .Dict (dictK (asgV (stm 14))) (dictV (asgV (stm 14))) (dictP (asgV (stm 14)))
noncomputable def g14 (v : Value) : Sem Flow := do assignStores env1 v (← swappedStores (asgT (stm 14)) e14 env1) ((assignEach (asgT (stm 14)) env1).map (·.2))
theorem exec_asg (ts : List Expr) (v : Expr) (q : Pos) (env : Env) : exec (.Assign ts v q) env = (do
    PySem.standAt q
    if ← swapsWithSole ts v q.line env then do
      evalThenUse v env fun x => assignAll x ((assignEach ts env).map (·.2))
      Pure.pure .next
    else do
      let x ← eval v env
      assignStores env x (← swappedStores ts v env) ((assignEach ts env).map (·.2))) := by rfl
theorem stm14 : stm 14 = .Assign (asgT (stm 14)) e14 (asgP (stm 14)) := by kernel_rfl
theorem sole14 : swapsWithSole (asgT (stm 14)) e14 (asgP (stm 14)).line env1 = Pure.pure false := by kernel_rfl
theorem exec14 : exec (stm 14) env1 = (do PySem.standAt (asgP (stm 14)); let v ← eval e14 env1; g14 v) := by
  have h := exec_asg (asgT (stm 14)) e14 (asgP (stm 14)) env1
  rw [← stm14, sole14] at h
  exact h
noncomputable def xs14 : List (Int × Str) := ((litPairs (dictK (asgV (stm 14))) (dictV (asgV (stm 14)))).map (·.1)).getD []
theorem lit14 : (litPairs (dictK (asgV (stm 14))) (dictV (asgV (stm 14)))).map (·.1) = some xs14 := by kernel_rfl
theorem len14 : xs14.length = 650 := by decide +kernel
theorem fin14 : ((fin 413 xs14).on, (fin 413 xs14).k, (fin 413 xs14).run.length, (fin 413 xs14).n, (fin 413 xs14).em, (fin 413 xs14).ms.length, (fin 413 xs14).subs.length) = (true, 2351, 4, 12433, 646, 646, 37) := by kernel_rfl
end Mine

end
section
open PySem PySem.Calls PyProof.Rows PySem.W
namespace Mine
theorem run12b (w : World) : Run12 (w.withFollow "special-get-raises" true) := by
  unfold Run12
  intro os b rest
  unfold restOf
  rw [PySem.W.Fast.te15667345088766844465, PySem.W.Fast.te14364793385576792824, PySem.W.Fast.te12563942051412417395]
  kernel_rfl
theorem run12 (w : World) : Run12 w := byRow2 "special-get-raises" run12a run12b w
noncomputable def incB : List Int → Bool
  | [] => true
  | [_] => true
  | a :: b :: r => decide (a < b) && incB (b :: r)
theorem incB_pair : ∀ {l : List Int}, incB l = true → l.Pairwise (· < ·)
  | [], _ => .nil
  | [a], _ => by simp
  | a :: b :: r, h => by
    have h' : (decide (a < b) && incB (b :: r)) = true := h
    rw [Bool.and_eq_true, decide_eq_true_eq] at h'
    have ih := incB_pair h'.2
    refine List.pairwise_cons.mpr ⟨fun y hy => ?_, ih⟩
    rcases List.mem_cons.mp hy with rfl | hy
    · exact h'.1
    · exact Int.lt_trans h'.1 ((List.pairwise_cons.mp ih).1 y hy)
theorem nodup14 : (xs14.map fun x => hashInt x.1).Nodup := by
  have h : incB (xs14.map fun x => hashInt x.1) = true := by decide +kernel
  exact (incB_pair h).imp fun h e => absurd (e ▸ h) (Int.lt_irrefl _)
theorem lenA13 (P : Params) : (A13 P).length = 118 := rfl
section
variable {p : Program} {w : World} {n₀ : Nat} {ann : Option Value} {α β : Type}
theorem Does.thread {x : Sem α} {s s1 : Shared} {a : α} {n : Nat} (h : Does p w n₀ ann x s s1 a n) (f : α → Sem β) (K : β → Sem Fin) (H : Value → Sem Fin) (gd : Bool → Bool) (lv : List Value → List Value) (c : Code) (q : Pos) (B : List Frame) (hB : B ≠ []) :
    ∃ q', topGo treeTable p w n₀ ann n s ⟨(x >>= f).wrap K H gd lv, c, q, B⟩ = some (s1, ⟨(f a).wrap K H gd lv, c, q', B⟩) := by
  rw [Sem.bind_eq_wrap', Sem.wrap_wrap]
  exact h (fun a => (f a).wrap K H gd lv) _ _ _ c q B hB
end
noncomputable abbrev D14 : Obj := dObj (finMs 413 xs14) 650
noncomputable abbrev s14 (w : World) (os : OsState) : Shared := ⟨hp {} (A13 w.params ++ D14 :: finSubs 413 xs14), #[], {}, 2363, os⟩
theorem run14 (w : World) (os : OsState) (b rest : List Stmt) : ∃ q', topGo treeTable pw w 11 ann6 12517 (s13 w os) (restOf (stm 14 :: rest) env1 (.body b env1) P13 BB) =
    some (s14 w os, ⟨(g14 (.ref 118)).wrap (fun f => match f with | .next => (execs rest env1).wrap doneF (leaveH env1) id id | f => doneF f) (leaveH env1) id id, .body b env1, q', BB⟩) := by
  unfold restOf
  rw [execs_cons_wrap, exec14]
  obtain ⟨q1, h1⟩ := Does.thread (Does.standAt (p := pw) (w := w) (n₀ := 11) (ann := ann6) (pos := asgP (stm 14)) (s := s13 w os)) (fun _ => eval e14 env1 >>= g14) (fun f => match f with | .next => (execs rest env1).wrap doneF (leaveH env1) id id | f => doneF f) (leaveH env1) id id (.body b env1) P13 BB (by simp)
  have hf := fin14
  simp only [Prod.mk.injEq] at hf
  obtain ⟨f1, f2, f3, f4, f5, f6, f7⟩ := hf
  have hd := Does.evalDict (p := pw) (w := w) (n₀ := 11) (ann := ann6) (s := s13 w os) (life := {}) (A := A13 w.params) (k := 413) (pos := dictP (asgV (stm 14))) (env := env1) lit14 (by rw [lenA13]; decide) (by rw [lenA13]; decide) nodup14 (by rw [len14]; decide) f1 (by intro e; rw [e] at f6; cases f6) (by intro e; rw [e] at f3; cases f3) (by rw [f3]; decide) (by rw [f6]; decide)
  rw [f2, f3, f4, f5, lenA13] at hd
  obtain ⟨q2, h2⟩ := Does.thread hd g14 (fun f => match f with | .next => (execs rest env1).wrap doneF (leaveH env1) id id | f => doneF f) (leaveH env1) id id (.body b env1) q1 BB (by simp)
  exact ⟨q2, seg_cat h1 h2⟩
end Mine

end
section
open PySem PySem.Calls PyProof.Rows PySem.W
namespace Mine
noncomputable def rest15 : List Stmt := [stm 15, stm 16, stm 17, stm 18, stm 19, stm 20, stm 21, stm 22, stm 23, stm 24, stm 25, stm 26]
theorem run_tail (w : World) (os : OsState) (b : List Stmt) (ds : Nat → Obj) (q : Pos) :
    topRun treeTable pw w 11 ann6 400 ⟨hp {} (A13 w.params ++ (List.range 39).map ds), #[], {}, 2363, os⟩ ⟨(g14 (.ref 118)).wrap (fun f => match f with | .next => (execs rest15 env1).wrap doneF (leaveH env1) id id | f => doneF f) (leaveH env1) id id, .body b env1, q, BB⟩ =
      some ⟨hp {} (A26 w.params ds), #[], {}, 2458, os⟩ := by
  rw [PySem.W.Fast.te14082659384304107361, PySem.W.Fast.te14364793385576792824, PySem.W.Fast.te12563942051412417395]
  kernel_rfl
end Mine

end
section
open PySem PySem.Calls PyProof.Rows PySem.W
namespace Mine
noncomputable def Khp (P : Params) : Frag := (nat_lit 2, boot_o_2 P) :: (nat_lit 3, v3 P) :: (nat_lit 15, u15 P) :: (nat_lit 16, u16 P) :: (nat_lit 18, u18 P) :: (nat_lit 19, u19 P) :: (nat_lit 21, u21 P) :: (nat_lit 22, u22 P) :: (nat_lit 23, u23 P) :: (nat_lit 25, u25 P) :: (nat_lit 26, u26 P) :: (nat_lit 28, u28 P) :: (nat_lit 29, u29 P) :: (nat_lit 30, u30 P) :: (nat_lit 32, u32 P) :: (nat_lit 33, u33 P) :: (nat_lit 35, u35 P) :: (nat_lit 36, u36 P) :: (nat_lit 37, u37 P) :: (nat_lit 39, u39 P) :: (nat_lit 40, u40 P) :: (nat_lit 42, u42 P) :: (nat_lit 43, u43 P) :: (nat_lit 44, u44 P) :: (nat_lit 46, u46 P) :: (nat_lit 47, u47 P) :: (nat_lit 49, u49 P) :: (nat_lit 50, u50 P) :: (nat_lit 51, u51 P) :: (nat_lit 53, u53 P) :: (nat_lit 54, u54 P) :: (nat_lit 56, u56 P) :: (nat_lit 57, u57 P) :: (nat_lit 65, u65 P) :: (nat_lit 67, u67 P) :: (nat_lit 68, u68 P) :: (nat_lit 70, u70 P) :: (nat_lit 71, u71 P) :: (nat_lit 72, u72 P) :: (nat_lit 74, u74 P) :: (nat_lit 75, u75 P) :: (nat_lit 77, u77 P) :: (nat_lit 78, u78 P) :: (nat_lit 79, u79 P) :: (nat_lit 81, u81 P) :: (nat_lit 82, u82 P) :: (nat_lit 84, u84 P) :: (nat_lit 85, u85 P) :: (nat_lit 86, u86 P) :: (nat_lit 88, u88 P) :: (nat_lit 89, u89 P) :: (nat_lit 91, u91 P) :: (nat_lit 92, u92 P) :: (nat_lit 93, u93 P) :: (nat_lit 94, u94 P) :: (nat_lit 95, u95 P) :: (nat_lit 96, u96 P) :: (nat_lit 97, u97 P) :: (nat_lit 107, u107 P) :: (nat_lit 111, u111 P) :: (nat_lit 113, u113 P) :: (nat_lit 114, u114 P) :: (nat_lit 116, u116 P) :: (nat_lit 117, u117 P) :: (nat_lit 118, D14) :: (nat_lit 157, v157 P) :: (nat_lit 159, v159 P) :: (nat_lit 160, v160 P) :: (nat_lit 162, v162 P) :: (nat_lit 163, v163 P) :: (nat_lit 164, v164 P) :: (nat_lit 167, v167 P) :: (nat_lit 168, v168 P) :: (nat_lit 169, v169 P) :: (nat_lit 171, v171 P) :: (nat_lit 172, v172 P) :: (nat_lit 174, v174 P) :: (nat_lit 175, v175 P) :: (nat_lit 176, v176 P) :: (nat_lit 178, v178 P) :: (nat_lit 179, v179 P) :: (nat_lit 181, v181 P) :: (nat_lit 182, v182 P) :: (nat_lit 183, v183 P) :: (nat_lit 186, v186 P) :: (nat_lit 187, v187 P) :: (nat_lit 188, v188 P) :: (nat_lit 190, v190 P) :: (nat_lit 191, v191 P) :: (nat_lit 193, v193 P) :: (nat_lit 194, v194 P) :: (nat_lit 195, v195 P) :: (nat_lit 198, v198 P) :: (nat_lit 199, v199 P) :: (nat_lit 200, v200 P) :: (nat_lit 203, v203 P) :: (nat_lit 204, v204 P) :: (nat_lit 205, v205 P) :: (nat_lit 207, v207 P) :: (nat_lit 208, v208 P) :: (nat_lit 210, v210 P) :: (nat_lit 211, v211 P) :: (nat_lit 212, v212 P) :: (nat_lit 215, v215 P) :: (nat_lit 216, v216 P) :: (nat_lit 217, v217 P) :: (nat_lit 220, v220 P) :: (nat_lit 221, v221 P) :: []
noncomputable def asK : List Addr := [2, 3, 15, 16, 18, 19, 21, 22, 23, 25, 26, 28, 29, 30, 32, 33, 35, 36, 37, 39, 40, 42, 43, 44, 46, 47, 49, 50, 51, 53, 54, 56, 57, 65, 67, 68, 70, 71, 72, 74, 75, 77, 78, 79, 81, 82, 84, 85, 86, 88, 89, 91, 92, 93, 94, 95, 96, 97, 107, 111, 113, 114, 116, 117, 118, 157, 159, 160, 162, 163, 164, 167, 168, 169, 171, 172, 174, 175, 176, 178, 179, 181, 182, 183, 186, 187, 188, 190, 191, 193, 194, 195, 198, 199, 200, 203, 204, 205, 207, 208, 210, 211, 212, 215, 216, 217, 220, 221]
theorem hasK : ∀ P, asK = (Khp P).map (·.1) := fun _ => rfl
noncomputable def V : Program := { pw with main := { pw.main with body := [stm 2, stm 3, stm 4, stm 5, stm 6, stm 8, stm 10, stm 13, stm 15, stm 17, stm 18, stm 19, stm 20, stm 21, stm 22, stm 23, stm 24, stm 25, stm 26] } }
noncomputable def dsv (i : Nat) : Obj := (D14 :: finSubs 413 xs14).getD i default
noncomputable def H1 (P : Params) : Heap := hp {} (A26 P dsv)
theorem explode (l : List Obj) : l = (List.range l.length).map fun i => l.getD i default := by
  apply List.ext_getElem
  · simp
  · intro i h1 h2
    simp [List.getD_eq_getElem?_getD, List.getElem?_eq_getElem h1]
theorem run_all (w : World) (os : OsState) : topRun treeTable pw w 11 ann6 (12 + (1 + (592 + (1027 + (12517 + 400))))) ⟨boot_heap w.params, Array.mk [], boot_drawn, boot_toks, os⟩ (topStub pw) = some ⟨H1 w.params, #[], {}, 2458, os⟩ := by
  refine go_top (run_pre1 w os) (piece_block (run_blk w os) ?_)
  rw [show restOf (behindTheImports pw) env1 cB P0 BB = restOf (sts12 (stm 12 :: stm 13 :: stm 14 :: rest15)) env1 cB P0 BB from congrArg (fun l => restOf l env1 cB P0 BB) body_is]
  refine go_top (run0 w os _ _) (go_top (run12 w os _ _) ?_)
  obtain ⟨q, h⟩ := run14 w os (behindTheImports pw) rest15
  refine go_top h ?_
  have e : D14 :: finSubs 413 xs14 = (List.range 39).map dsv := by
    have h0 := explode (D14 :: finSubs 413 xs14)
    have hl : (D14 :: finSubs 413 xs14).length = 39 := by
      have hf := fin14
      simp only [Prod.mk.injEq] at hf
      simp only [List.length_cons, finSubs, List.length_append, hf.2.2.2.2.2.2, List.length_nil]
    rw [hl] at h0
    exact h0
  have ht := run_tail w os (behindTheImports pw) dsv q
  rw [← e] at ht
  exact ht
end Mine

end
section
open PySem PySem.W PySem.W.X PyProof.Rows PySem.Calls PySem.Spec PyProof.V Builtin Builtin.ObjectAttr
namespace Mine
noncomputable def rd : Str := Str.ofString "read"
section
variable {prog : Program} {w : World} {A : Around} {E : Value → Shared → Prop} {s : Shared} {h₀ : Heap} {L f : Addr} {m : Str → Option Value}
theorem set_fn {d : FuncData} {sl : Array (Option Value)} {v : Value} {Q : Unit → Shared → Prop} {rest : Led} (F : Fr h₀ L s.heap m) (N : News h₀ L s.heap ((f, ⟨.type "function", none, .func d, sl⟩) :: rest)) (hr : ∀ p ∈ rest, p.1 ≠ f)
    (k : ∀ D tt h' tk', Fr h₀ L h' m → News h₀ L h' ((D, { cls := .type "dict", data := .dict #[⟨PyData.keyHash w.params rd, .str rd tt, v⟩] 1 }) :: (f, ⟨.type "function", some D, .func d, sl⟩) :: rest) → (∀ p ∈ (f, (⟨.type "function", none, .func d, sl⟩ : Obj)) :: rest, p.1 < D) → Q () {s with heap := h', toks := tk'}) :
    wpAny (model prg w) A (setAttr (.ref f) rd v) Q E s := by
  walk_at "open"
  obtain ⟨hh, g, dr, t, os⟩ := s
  walk_at "shut"
  have ho := (N _ (.head _)).1
  have SF := PySem.F.store_object
  dsimp only at ho
  have LT : Looks (model prg w) hh (typeOf (.ref f)) (.type "function") := (Looks.ld (part := none) ho).andThen .now
  have S1 : Looks (model prg w) hh (typeLookup (.type "function") "__setattr__") (some (.builtin "object.__setattr__")) := Looks.of_pure (by kernel_rfl)
  have S2 : Looks (model prg w) hh (typeLookup (.type "function") rd) none := Looks.of_pure (by kernel_rfl)
  have S3 : Looks (model prg w) hh (mroOf (.type "function")) [.type "function", .type "object"] := Looks.of_pure (by kernel_rfl)
  have sub : Looks (model prg w) hh (isInstance (.ref f) (.type "object")) true := LT.andThen (Looks.of_pure (by kernel_rfl))
  unfold setAttr
  refine wpAny_bind (wpAny_mkText (wpAny_bind ?_))
  unfold callSpecial? specialOf
  refine wpAny_bind (wpAny_bind (LT.at (S1.at ?_)))
  dsimp only
  refine wpAny_holding (wpAny_bind ?_)
  have hb : bindSpecial (.builtin "object.__setattr__") (.ref f) = pure (.builtin "object.__setattr__", [.ref f]) := by kernel_rfl
  rw [hb]
  refine wpAny_pure (wpAny_bind (wpAny_call ?_))
  refine codeAny_call_builtin SF.slot.plain SF.entry (@check_slot (model prg w) _ _ _ "object.__setattr__" "object" "__setattr__" (.ref f) [.str rd t, v] [] _ SF.kind SF.split sub (SF.args (.ref f) (.str rd t) v) ?_)
  show wpAny _ _ (Builtin.«object.__setattr__» ⟨[.ref f, .str rd t, v], []⟩) _ _ _
  rw [osa_eq, refuse_eq]
  refine wpAny_bind (wpAny_bind (LT.at (wpAny_bind (S3.at ?_))))
  have hp : refuseLoop (.ref f) "__setattr__" [.type "function", .type "object"] = pure () := by kernel_rfl
  rw [hp]
  refine wpAny_pure (wpAny_bind (LT.at (wpAny_bind (S2.at (wpAny_bind (wpAny_pure ?_))))))
  dsimp only
  unfold storeInOwnDict
  refine wpAny_bind (wpAny_pure ?_)
  rw [if_neg (by decide +kernel)]
  refine wpAny_bind ?_
  unfold ownDictForStores instanceDict
  repeat lk
  have hlt : f < hh.objs.size := Heap.lt_size ho
  have F1 : Fr h₀ L (hh.push { cls := .type "dict", data := .dict #[] }) m := F.push _
  have N1 : News h₀ L (hh.push { cls := .type "dict", data := .dict #[] }) ([(hh.objs.size, { cls := .type "dict", data := .dict #[] })] ++ (f, ⟨.type "function", none, .func d, sl⟩) :: rest) := fun p hp => by
    rcases List.mem_append.mp hp with hp | hp
    · rw [List.mem_singleton.mp hp]
      exact ⟨Heap.get?_push_size _ rfl, fresh_ne F, fresh_none F⟩
    · exact ⟨Heap.get?_push_of_some _ (N p hp).1, (N p hp).2⟩
  obtain ⟨F2, N2⟩ := news_upd (f := fun o => { o with dict := some hh.objs.size }) F1 N1 (fun p hp => by rw [List.mem_singleton.mp hp]; exact Nat.ne_of_gt hlt) hr rfl rfl
  obtain ⟨F3, N3⟩ := news_upd (pre := []) (f := Obj.putName rd (PyData.keyHash w.params rd) (.str rd (t+1)) v) F2 N2 (fun _ h => nomatch h) (fun p hp => by
    rcases List.mem_cons.mp hp with rfl | hp
    · exact Nat.ne_of_lt hlt
    · exact Nat.ne_of_lt (Heap.lt_size (N p (.tail _ hp)).1)) rfl rfl
  refine wpAny_update' (N1 (f, ⟨.type "function", none, .func d, sl⟩) (.tail _ (.head _))).1 ?_
  refine wpAny_pure ?_
  dsimp only
  unfold storeInDict
  refine wpAny_bind (wpAny_pure (wpAny_bind ?_))
  unfold nsSet
  refine wpAny_bind (wpAny_bind (wpAny_askSetting (wpAny_pure (wpAny_bind (wpAny_mkText (wpAny_bind (wpAny_loadPart' (N2 _ (.head _)).1 ?_)))))))
  refine wpAny_updatePart' (N2 _ (.head _)).1 ?_
  refine wpAny_bind (wpAny_lookBehind (N3 _ (.head _)).1 (by kernel_rfl) ?_)
  refine wpAny_pure (wpAny_pure (wpAny_pure ?_))

  exact k _ _ _ _ F3 N3 fun p hp => Heap.lt_size (N p hp).1
end
end Mine

end
section
open PySem PySem.W PySem.W.X PyProof.Rows PySem.Calls PySem.Spec PyProof.V Builtin Builtin.ObjectAttr
namespace Mine
section
variable {prog : Program} {w : World} {A : Around} {E : Value → Shared → Prop} {s : Shared} {h₀ : Heap} {L f : Addr} {m : Str → Option Value}
theorem meth_fn {d : FuncData} {sl : Array (Option Value)} {f2 D : Addr} {hs : Int} {tt : Nat} {pl : Sem Bool} {Q : Value × List Value → Shared → Prop} 
    (h1 : s.heap.get? f = some ⟨.type "function", some D, .func d, sl⟩) (h2 : s.heap.get? D = some { cls := .type "dict", data := .dict #[⟨hs, .str rd tt, .ref f2⟩] 1 }) 
    (k : ∀ tk', Q (.ref f2, []) {s with toks := tk'}) :
    wpAny (model prg w) A (getMethod (.ref f) rd pl) Q E s := by
  walk_at "open"
  obtain ⟨hh, g, dr, t, os⟩ := s
  walk_at "shut"
  dsimp only at h1 h2
  have LT : Looks (model prg w) hh (typeOf (.ref f)) (.type "function") := (Looks.ld (part := none) h1).andThen .now
  have S1 : Looks (model prg w) hh (typeLookup (.type "function") "__getattribute__") (some (.builtin "object.__getattribute__")) := Looks.of_pure (by rw [typeLookup_type, builtinLookup_eq_fast]; kernel_rfl)
  have S2 : Looks (model prg w) hh (typeLookup (.type "function") rd) none := Looks.of_pure (by rw [typeLookup_type, builtinLookup_eq_fast]; kernel_rfl)
  have S4 : Looks (model prg w) hh (typeLookup (.type "function") "__getattr__") none := Looks.of_pure (by rw [typeLookup_type, builtinLookup_eq_fast]; kernel_rfl)
  have sub : Looks (model prg w) hh (isInstance (.ref f) (.type "object")) true := LT.andThen (Looks.of_pure (by kernel_rfl))
  have hcan := PySem.F.canon_object_ga
  unfold getMethod specialOf
  refine wpAny_bind (wpAny_bind (LT.at (S1.at ?_)))
  dsimp only
  rw [hcan, if_neg (by decide)]
  refine wpAny_bind (wpAny_bind (LT.at (S4.at ?_)))
  refine wpAny_bind (wpAny_bind (LT.at (S2.at ?_)))
  dsimp only
  refine wpAny_bind ?_
  unfold getAttr getAttrBy
  refine wpAny_bind (wpAny_mkText (wpAny_holding (wpAny_bind (LT.at (wpAny_bind (S1.at ?_))))))
  have e1 : (onTheHeap (.type "function") && (Value.builtin "object.__getattribute__" == Value.builtin "object.__getattribute__")) = false := by kernel_rfl
  dsimp only
  rw [if_neg (by rw [e1]; decide)]
  unfold getAttrByItsOwn
  have hbf : hookBefore (.type "function") = pure none := by kernel_rfl
  rw [hbf]
  refine wpAny_bind (wpAny_pure (wpAny_bind (wpAny_attempt (wpAny_holding ?_))))
  unfold callGetattribute
  rw [if_neg (by decide)]
  unfold boundAndCalled
  have hb : bindSpecial (.builtin "object.__getattribute__") (.ref f) = pure (.builtin "object.__getattribute__", [.ref f]) := by kernel_rfl
  rw [hb]
  refine wpAny_bind (wpAny_pure (wpAny_call ?_))
  have he : entryFor table "object.__getattribute__" = some Builtin.«object.__getattribute__» := entryFor_of_tree (by kernel_rfl)
  refine codeAny_call_builtin (by decide +kernel) he (@check_slot (model prg w) _ _ _ "object.__getattribute__" "object" "__getattribute__" (.ref f) [.str rd t] [] _ (by kernel_rfl) (by kernel_rfl) sub (by kernel_rfl) ?_)
  show wpAny _ _ (Builtin.«object.__getattribute__» ⟨[.ref f, .str rd t], []⟩) _ _ _
  unfold Builtin.«object.__getattribute__»
  refine wpAny_bind (wpAny_pure (wpAny_bind (wpAny_pure (wpAny_bind (LT.at (wpAny_bind ?_))))))
  unfold find
  refine wpAny_bind (S2.at (wpAny_bind (wpAny_pure (wpAny_bind (wpAny_pure ?_)))))
  dsimp only
  unfold ownThenClass inOwnDict ObjectAttr.ownDict instanceDict inDict nsGet
  repeat lk
  exact k _
end
end Mine

end
section
open PySem PySem.W PySem.W.X PyProof.Rows PySem.Calls PySem.Spec PyProof.V
noncomputable section
namespace Mine
noncomputable def kFd (P : Params) (a : Addr) : FuncData := match (Khp P).lookup a with
  | some ⟨_, _, .func fd, _⟩ => fd
  | _ => default
noncomputable def defsIn (fd : FuncData) : List (Str × Arguments × List Stmt × Scope) := match fd.body with
  | .stmts b => b.filterMap fun | .FunctionDef n a b _ _ _ s _ _ _ => some (n, a, b, s) | _ => none
  | _ => []
noncomputable def innerIn (P : Params) (a : Addr) : Str × Arguments × List Stmt × Scope := (defsIn (kFd P a)).headD (Str.ofString "", default, [], default)
noncomputable def roObj (P : Params) (clos : List (Str × Addr)) (doc pm : Value) (c : Addr) (ctv : Value) : Obj :=
  fnMade (innerIn P 182).1 (Str.ofString "_law_machine.<locals>._law_read_on") (innerIn P 182).2.1 (innerIn P 182).2.2.1 (innerIn P 182).2.2.2 clos doc pm c ctv
structure Mch where
  (x d D fl fr la ca ct pl c1 : Addr)
  (oca oct : Obj) (flo : FuncData) (dc pm ctv : Value)
  (t1 t2 t3 t4 tw tD tt : Tok) (n1 : Nat)
noncomputable def Mch.own (k : Mch) (P : Params) (line : Int) (tl : Tok) (push : List Value) (pn : Nat) (pos : Int) (tp : Tok) : Led :=
  [(k.pl, W.listOf push.toArray pn), (k.x, instObj 95 k.d),
   (k.d, dictOf [⟨PyData.keyHash P (Str.ofString "lineno"), .str (Str.ofString "lineno") k.t1, .int line tl⟩, ⟨PyData.keyHash P (Str.ofString "instream"), .str (Str.ofString "instream") k.t2, .ref k.fl⟩,
     ⟨PyData.keyHash P (Str.ofString "whitespace"), .str (Str.ofString "whitespace") k.t3, .str (Str.ofString "\n\t\r ") k.tw⟩, ⟨PyData.keyHash P (Str.ofString "pushback"), .str (Str.ofString "pushback") k.t4, .ref k.pl⟩] 4),
   (k.D, { cls := .type "dict", data := .dict #[⟨PyData.keyHash P rd, .str rd k.tD, .ref k.fr⟩] 1 }),
   (k.fl, ⟨.type "function", some k.D, .func k.flo, #[]⟩),
   (k.fr, roObj P [(Str.ofString "text", k.ct), (Str.ofString "at", k.ca)] k.dc k.pm k.c1 k.ctv),
   (k.la, W.listOf #[.int pos tp] k.n1), (k.ca, k.oca), (k.ct, k.oct)]
structure Mch.Ok (k : Mch) (text : Str) : Prop where
  ca : k.oca.data = .cell (some (.ref k.la))
  ct : k.oct.data = .cell (some (.str text k.tt))
  ord : @LT.lt Nat _ k.ct k.ca ∧ @LT.lt Nat _ k.ca k.la ∧ @LT.lt Nat _ k.la k.fr ∧ @LT.lt Nat _ k.fr k.fl ∧ @LT.lt Nat _ k.fl k.D ∧ @LT.lt Nat _ k.D k.d ∧ @LT.lt Nat _ k.d k.x ∧ @LT.lt Nat _ k.x k.pl
theorem Mch.Ok.all {k : Mch} {text : Str} (hk : Mch.Ok k text) :
    (@LT.lt Nat _ k.x k.pl ∧ @LT.lt Nat _ k.d k.pl ∧ @LT.lt Nat _ k.D k.pl ∧ @LT.lt Nat _ k.fl k.pl ∧ @LT.lt Nat _ k.fr k.pl ∧ @LT.lt Nat _ k.la k.pl ∧ @LT.lt Nat _ k.ca k.pl ∧ @LT.lt Nat _ k.ct k.pl) ∧
    (@LT.lt Nat _ k.d k.x ∧ @LT.lt Nat _ k.D k.x ∧ @LT.lt Nat _ k.fl k.x ∧ @LT.lt Nat _ k.fr k.x ∧ @LT.lt Nat _ k.la k.x ∧ @LT.lt Nat _ k.ca k.x ∧ @LT.lt Nat _ k.ct k.x) ∧
    (@LT.lt Nat _ k.D k.d ∧ @LT.lt Nat _ k.fl k.d ∧ @LT.lt Nat _ k.fr k.d ∧ @LT.lt Nat _ k.la k.d ∧ @LT.lt Nat _ k.ca k.d ∧ @LT.lt Nat _ k.ct k.d) ∧
    (@LT.lt Nat _ k.fl k.D ∧ @LT.lt Nat _ k.fr k.D ∧ @LT.lt Nat _ k.la k.D ∧ @LT.lt Nat _ k.ca k.D ∧ @LT.lt Nat _ k.ct k.D) ∧
    (@LT.lt Nat _ k.fr k.fl ∧ @LT.lt Nat _ k.la k.fl ∧ @LT.lt Nat _ k.ca k.fl ∧ @LT.lt Nat _ k.ct k.fl) ∧
    (@LT.lt Nat _ k.la k.fr ∧ @LT.lt Nat _ k.ca k.fr ∧ @LT.lt Nat _ k.ct k.fr) ∧
    (@LT.lt Nat _ k.ca k.la ∧ @LT.lt Nat _ k.ct k.la) ∧
    (@LT.lt Nat _ k.ct k.ca) := by
  obtain ⟨h1, h2, h3, h4, h5, h6, h7, h8⟩ := hk.ord
  have f01 := h1
  have f12 := h2
  have f02 := Nat.lt_trans f01 h2
  have f23 := h3
  have f13 := Nat.lt_trans f12 h3
  have f03 := Nat.lt_trans f02 h3
  have f34 := h4
  have f24 := Nat.lt_trans f23 h4
  have f14 := Nat.lt_trans f13 h4
  have f04 := Nat.lt_trans f03 h4
  have f45 := h5
  have f35 := Nat.lt_trans f34 h5
  have f25 := Nat.lt_trans f24 h5
  have f15 := Nat.lt_trans f14 h5
  have f05 := Nat.lt_trans f04 h5
  have f56 := h6
  have f46 := Nat.lt_trans f45 h6
  have f36 := Nat.lt_trans f35 h6
  have f26 := Nat.lt_trans f25 h6
  have f16 := Nat.lt_trans f15 h6
  have f06 := Nat.lt_trans f05 h6
  have f67 := h7
  have f57 := Nat.lt_trans f56 h7
  have f47 := Nat.lt_trans f46 h7
  have f37 := Nat.lt_trans f36 h7
  have f27 := Nat.lt_trans f26 h7
  have f17 := Nat.lt_trans f16 h7
  have f07 := Nat.lt_trans f06 h7
  have f78 := h8
  have f68 := Nat.lt_trans f67 h8
  have f58 := Nat.lt_trans f57 h8
  have f48 := Nat.lt_trans f47 h8
  have f38 := Nat.lt_trans f37 h8
  have f28 := Nat.lt_trans f27 h8
  have f18 := Nat.lt_trans f17 h8
  have f08 := Nat.lt_trans f07 h8
  exact ⟨⟨f78, f68, f58, f48, f38, f28, f18, f08⟩, ⟨f67, f57, f47, f37, f27, f17, f07⟩, ⟨f56, f46, f36, f26, f16, f06⟩, ⟨f45, f35, f25, f15, f05⟩, ⟨f34, f24, f14, f04⟩, ⟨f23, f13, f03⟩, ⟨f12, f02⟩, f01⟩
theorem own_rng {k : Mch} {text : Str} (hk : Mch.Ok k text) {P : Params} {line pos : Int} {tl tp : Tok} {ps : List Value} {pn : Nat} : ∀ p ∈ k.own P line tl ps pn pos tp, (@LE.le Nat _ k.ct p.1 ∧ @LE.le Nat _ p.1 k.pl) ∧ (@LE.le Nat _ p.1 k.la ∨ @LE.le Nat _ k.fr p.1) ∧ (@LE.le Nat _ p.1 k.fr ∨ @LE.le Nat _ k.fl p.1) := by
  obtain ⟨h1, h2, h3, h4, h5, h6, h7, h8⟩ := hk.ord
  have a0 := Nat.le_refl k.ct
  have a1 := Nat.le_trans a0 (Nat.le_of_lt h1)
  have a2 := Nat.le_trans a1 (Nat.le_of_lt h2)
  have a3 := Nat.le_trans a2 (Nat.le_of_lt h3)
  have a4 := Nat.le_trans a3 (Nat.le_of_lt h4)
  have a5 := Nat.le_trans a4 (Nat.le_of_lt h5)
  have a6 := Nat.le_trans a5 (Nat.le_of_lt h6)
  have a7 := Nat.le_trans a6 (Nat.le_of_lt h7)
  have a8 := Nat.le_trans a7 (Nat.le_of_lt h8)
  have z8 := Nat.le_refl k.pl
  have z7 := Nat.le_trans (Nat.le_of_lt h8) z8
  have z6 := Nat.le_trans (Nat.le_of_lt h7) z7
  have z5 := Nat.le_trans (Nat.le_of_lt h6) z6
  have z4 := Nat.le_trans (Nat.le_of_lt h5) z5
  have z3 := Nat.le_trans (Nat.le_of_lt h4) z4
  have z2 := Nat.le_trans (Nat.le_of_lt h3) z3
  have z1 := Nat.le_trans (Nat.le_of_lt h2) z2
  have z0 := Nat.le_trans (Nat.le_of_lt h1) z1
  have l2 := Nat.le_refl k.la
  have l1 := Nat.le_of_lt h2
  have l0 := Nat.le_trans (Nat.le_of_lt h1) l1
  have r3 := Nat.le_refl k.fr
  have r4 := Nat.le_trans r3 (Nat.le_of_lt h4)
  have r5 := Nat.le_trans r4 (Nat.le_of_lt h5)
  have r6 := Nat.le_trans r5 (Nat.le_of_lt h6)
  have r7 := Nat.le_trans r6 (Nat.le_of_lt h7)
  have r8 := Nat.le_trans r7 (Nat.le_of_lt h8)
  have s3 := Nat.le_refl k.fr
  have s2 := Nat.le_trans (Nat.le_of_lt h3) s3
  have s1 := Nat.le_trans (Nat.le_of_lt h2) s2
  have s0 := Nat.le_trans (Nat.le_of_lt h1) s1
  have t4 := Nat.le_refl k.fl
  have t5 := Nat.le_trans t4 (Nat.le_of_lt h5)
  have t6 := Nat.le_trans t5 (Nat.le_of_lt h6)
  have t7 := Nat.le_trans t6 (Nat.le_of_lt h7)
  have t8 := Nat.le_trans t7 (Nat.le_of_lt h8)
  exact fcons (⟨⟨a8, z8⟩, .inr r8, .inr t8⟩) (fcons (⟨⟨a7, z7⟩, .inr r7, .inr t7⟩) (fcons (⟨⟨a6, z6⟩, .inr r6, .inr t6⟩) (fcons (⟨⟨a5, z5⟩, .inr r5, .inr t5⟩) (fcons (⟨⟨a4, z4⟩, .inr r4, .inr t4⟩) (fcons (⟨⟨a3, z3⟩, .inr r3, .inl s3⟩) (fcons (⟨⟨a2, z2⟩, .inl l2, .inl s2⟩) (fcons (⟨⟨a1, z1⟩, .inl l1, .inl s1⟩) (fcons (⟨⟨a0, z0⟩, .inl l0, .inl s0⟩) fnil))))))))
theorem k_ctpl {k : Mch} {text : Str} (hk : Mch.Ok k text) : @LT.lt Nat _ k.ct k.pl := hk.all.1.2.2.2.2.2.2.2
theorem own_below {k : Mch} {text : Str} (hk : Mch.Ok k text) {P : Params} {line pos : Int} {tl tp : Tok} {ps : List Value} {pn : Nat} {q : Addr} (h : @LT.lt Nat _ q k.ct) : q ∉ (k.own P line tl ps pn pos tp).map (·.1) := fun hx =>
  Exists.elim (List.mem_map.mp hx) fun _ hp => Nat.not_lt.mpr (own_rng hk _ hp.1).1.1 (hp.2 ▸ h)
theorem own_above {k : Mch} {text : Str} (hk : Mch.Ok k text) {P : Params} {line pos : Int} {tl tp : Tok} {ps : List Value} {pn : Nat} {q : Addr} (h : @LT.lt Nat _ k.pl q) : q ∉ (k.own P line tl ps pn pos tp).map (·.1) := fun hx =>
  Exists.elim (List.mem_map.mp hx) fun _ hp => Nat.not_lt.mpr (own_rng hk _ hp.1).1.2 (hp.2 ▸ h)
theorem own_ge {k : Mch} {text : Str} (hk : Mch.Ok k text) {P : Params} {line pos : Int} {tl tp : Tok} {ps : List Value} {pn : Nat} : ∀ p ∈ k.own P line tl ps pn pos tp, @LE.le Nat _ k.ct p.1 := fun p hp => (own_rng hk p hp).1.1
noncomputable def oneAt (text : Str) (pos : Int) : Str := Txt.slice text (some pos) (some (pos + 1))
theorem oneAt_lt {text : Str} {p c : Nat} (h : text.cps.toList[p]? = some c) : oneAt text p = ⟨#[c]⟩ := by
  obtain ⟨hp, e⟩ := List.getElem?_eq_some_iff.mp h
  have hp' : p < text.cps.size := by simpa using hp
  unfold oneAt
  rw [eq_of_beq (slice_one_closes (x := text) (n := p) (by lia) (by show (p : Int) < (text.cps.size : Nat); lia))]
  rw [Int.toNat_natCast, ← e]
  congr 2
  rw [Array.getD_eq_getD_getElem?, Array.getElem?_eq_getElem hp']
  simp
theorem oneAt_end {text : Str} : oneAt text text.length = ⟨#[]⟩ := by
  unfold oneAt Txt.slice
  have h : PySem.Builtin.Str.strSliceIndices (some (text.length : Int)) (some ((text.length : Int) + 1)) 1 text.length = [] := by
    unfold PySem.Builtin.Str.strSliceIndices sliceRange
    have e1 : (if (text.length : Int) < 0 then (text.length : Int) + text.length else text.length) = text.length := if_neg (by lia)
    have e2 : (if (text.length : Int) + 1 < 0 then (text.length : Int) + 1 + text.length else text.length + 1) = text.length + 1 := if_neg (by lia)
    simp only [e1, e2, show (1 : Int) > 0 by decide, if_true]
    have e3 : max 0 (min (text.length : Int) text.length) = text.length := by lia
    have e4 : max 0 (min ((text.length : Int) + 1) text.length) = text.length := by lia
    rw [e3, e4, if_neg (by lia)]
    rfl
  rw [h]
  split
  · rename_i q
    have : text.cps.size = 0 := by
      have := q
      simp only [BEq.rfl, Bool.true_and, beq_iff_eq, List.length_nil] at this
      exact this.symm
    obtain ⟨c⟩ := text
    have : c = #[] := Array.eq_empty_of_size_eq_zero this
    rw [this]
  · rfl
noncomputable def codeHas (o : Obj) (q : Str) : Prop := ∃ vs t, o.data = .fields vs ∧ vs[1]? = some (.str q t)
structure Mch.Off (k : Mch) (c1 c2 : Addr) : Prop where
  lt : @LT.lt Nat _ 177 c1 ∧ @LT.lt Nat _ c1 c2 ∧ @LT.lt Nat _ 177 k.ct
  one : @LT.lt Nat _ c1 k.ct ∨ (@LT.lt Nat _ k.la c1 ∧ @LT.lt Nat _ c1 k.fr)
  two : @LT.lt Nat _ c2 k.ct ∨ (@LT.lt Nat _ k.fr c2 ∧ @LT.lt Nat _ c2 k.fl)
theorem off_own {k : Mch} {text : Str} (hk : Mch.Ok k text) {P : Params} {line pos : Int} {tl tp : Tok} {ps : List Value} {pn : Nat} {c1 c2 : Addr} (hoff : Mch.Off k c1 c2) : ∀ p ∈ k.own P line tl ps pn pos tp, @Ne Nat p.1 c2 ∧ @Ne Nat p.1 c1 ∧ @Ne Nat p.1 177 := fun p hp =>
  have z := own_rng hk p hp
  ⟨hoff.two.elim (fun h => Nat.ne_of_gt (Nat.lt_of_lt_of_le h z.1.1)) (fun h => z.2.2.elim (fun y => Nat.ne_of_lt (Nat.lt_of_le_of_lt y h.1)) fun y => Nat.ne_of_gt (Nat.lt_of_lt_of_le h.2 y)),
    hoff.one.elim (fun h => Nat.ne_of_gt (Nat.lt_of_lt_of_le h z.1.1)) (fun h => z.2.1.elim (fun y => Nat.ne_of_lt (Nat.lt_of_le_of_lt y h.1)) fun y => Nat.ne_of_gt (Nat.lt_of_lt_of_le h.2 y)),
    Nat.ne_of_gt (Nat.lt_of_lt_of_le hoff.lt.2.2 z.1.1)⟩
noncomputable def tabLed (c1 c2 : Addr) (o1 o2 : Obj) : Led := [(c2, o2), (c1, o1), (177, tabObj #[rawInt 185, rawInt 4, .ref c1, rawInt 189, rawInt 13, .ref c2])]
theorem mach_made {P : Params} {h₀ h : Heap} {L x d D fl fr la ca ct pl c1 c2 : Addr} {oca oct fo o1 o2 : Obj} {flo : FuncData} {dc pm ctv : Value} {tl t1 t2 t3 t4 tw tD tt tp : Tok} {n1 pn : Nat} {rest : Led} {text : Str} {ps : Array Value}
    (N : News h₀ L h ([(pl, W.listOf #[] pn), (x, instObj 95 d),
   (d, dictOf [⟨PyData.keyHash P (Str.ofString "lineno"), .str (Str.ofString "lineno") t1, .int 1 tl⟩, ⟨PyData.keyHash P (Str.ofString "instream"), .str (Str.ofString "instream") t2, .ref fl⟩,
     ⟨PyData.keyHash P (Str.ofString "whitespace"), .str (Str.ofString "whitespace") t3, .str (Str.ofString "\n\t\r ") tw⟩, ⟨PyData.keyHash P (Str.ofString "pushback"), .str (Str.ofString "pushback") t4, .ref pl⟩] 4),
   (D, { cls := .type "dict", data := .dict #[⟨PyData.keyHash P rd, .str rd tD, .ref fr⟩] 1 }),
   (fl, ⟨.type "function", some D, .func flo, #[]⟩), (c2, o2), (fr, fo), (c1, o1), (la, W.listOf #[.int 0 tp] n1), (ca, oca), (ct, oct), (177, tabObj ps)] ++ rest))
    (hca : oca.data = .cell (some (.ref la))) (hct : oct.data = .cell (some (.str text tt)))
    (ord : @LT.lt Nat _ ct ca ∧ @LT.lt Nat _ ca la ∧ @LT.lt Nat _ la fr ∧ @LT.lt Nat _ fr fl ∧ @LT.lt Nat _ fl D ∧ @LT.lt Nat _ D d ∧ @LT.lt Nat _ d x ∧ @LT.lt Nat _ x pl)
    {nm : Str} {ar : Arguments} {bd : List Stmt} {sc : Scope} (hfo : fo = fnMade nm (Str.ofString "_law_machine.<locals>._law_read_on") ar bd sc [(Str.ofString "text", ct), (Str.ofString "at", ca)] dc pm c1 ctv) (hin : innerIn P 182 = (nm, ar, bd, sc))
    (e1 : codeHas o1 (Str.ofString "_law_machine.<locals>._law_read_on")) (e2 : codeHas o2 (Str.ofString "_law_machine.<locals>.<lambda>"))
    (hps : ps = #[rawInt 185, rawInt 4, .ref c1, rawInt 189, rawInt 13, .ref c2]) :
    ∃ k : Mch, k.x = x ∧ Mch.Ok k text ∧ k.c1 = c1 ∧ k.fl = fl ∧ k.la = la ∧ k.fr = fr ∧ k.ct = ct ∧ News h₀ L h (k.own P 1 tl [] pn 0 tp ++ tabLed c1 c2 o1 o2 ++ rest) := by
  have hfo' : fo = roObj P [(Str.ofString "text", ct), (Str.ofString "at", ca)] dc pm c1 ctv := by rw [hfo]; unfold roObj; rw [hin]
  subst hfo' hps
  exact ⟨⟨x, d, D, fl, fr, la, ca, ct, pl, c1, oca, oct, flo, dc, pm, ctv, t1, t2, t3, t4, tw, tD, tt, n1⟩, rfl, ⟨hca, hct, ord⟩, rfl, rfl, rfl, rfl, rfl, news_blk [[_], [_], [_], [_], [_], [_], [_], [_], [_], [_], [_], [_], _] [0, 1, 2, 3, 4, 6, 8, 9, 10, 5, 7, 11, 12] N⟩
theorem mach_made1 {P : Params} {h₀ h : Heap} {L x d D fl fr la ca ct pl c1 c2 : Addr} {oca oct fo o1 o2 : Obj} {flo : FuncData} {dc pm ctv : Value} {tl t1 t2 t3 t4 tw tD tt tp : Tok} {n1 pn : Nat} {rest : Led} {text : Str} {ps : Array Value}
    (N : News h₀ L h ([(pl, W.listOf #[] pn), (x, instObj 95 d),
   (d, dictOf [⟨PyData.keyHash P (Str.ofString "lineno"), .str (Str.ofString "lineno") t1, .int 1 tl⟩, ⟨PyData.keyHash P (Str.ofString "instream"), .str (Str.ofString "instream") t2, .ref fl⟩,
     ⟨PyData.keyHash P (Str.ofString "whitespace"), .str (Str.ofString "whitespace") t3, .str (Str.ofString "\n\t\r ") tw⟩, ⟨PyData.keyHash P (Str.ofString "pushback"), .str (Str.ofString "pushback") t4, .ref pl⟩] 4),
   (D, { cls := .type "dict", data := .dict #[⟨PyData.keyHash P rd, .str rd tD, .ref fr⟩] 1 }),
   (fl, ⟨.type "function", some D, .func flo, #[]⟩), (fr, fo), (la, W.listOf #[.int 0 tp] n1), (ca, oca), (ct, oct), (c2, o2), (c1, o1), (177, tabObj ps)] ++ rest))
    (hca : oca.data = .cell (some (.ref la))) (hct : oct.data = .cell (some (.str text tt)))
    (ord : @LT.lt Nat _ ct ca ∧ @LT.lt Nat _ ca la ∧ @LT.lt Nat _ la fr ∧ @LT.lt Nat _ fr fl ∧ @LT.lt Nat _ fl D ∧ @LT.lt Nat _ D d ∧ @LT.lt Nat _ d x ∧ @LT.lt Nat _ x pl)
    {nm : Str} {ar : Arguments} {bd : List Stmt} {sc : Scope} (hfo : fo = fnMade nm (Str.ofString "_law_machine.<locals>._law_read_on") ar bd sc [(Str.ofString "text", ct), (Str.ofString "at", ca)] dc pm c1 ctv) (hin : innerIn P 182 = (nm, ar, bd, sc))
    (e1 : codeHas o1 (Str.ofString "_law_machine.<locals>._law_read_on")) (e2 : codeHas o2 (Str.ofString "_law_machine.<locals>.<lambda>"))
    (hps : ps = #[rawInt 185, rawInt 4, .ref c1, rawInt 189, rawInt 13, .ref c2]) :
    ∃ k : Mch, k.x = x ∧ Mch.Ok k text ∧ k.c1 = c1 ∧ k.fl = fl ∧ k.la = la ∧ k.fr = fr ∧ k.ct = ct ∧ News h₀ L h (k.own P 1 tl [] pn 0 tp ++ tabLed c1 c2 o1 o2 ++ rest) := by
  exact mach_made (news_blk [[_], [_], [_], [_], [_], [_], [_], [_], [_], [_], [_], [_], _] [0, 1, 2, 3, 4, 9, 5, 10, 6, 7, 8, 11, 12] N) hca hct ord hfo hin e1 e2 hps
end Mine

end
section
open PySem PySem.W PySem.W.X PyProof.Rows PySem.Calls PySem.Spec PyProof.V Builtin Builtin.ObjectAttr
namespace Mine
section
variable {M : Model} {A : Around} {E : Value → Shared → Prop} {s : Shared}
theorem borrowed_call {f : Value} {pos : List Value} {Q : Value → Shared → Prop}
    (hc : codeAny M A (.call f ⟨pos, []⟩) (fun r s' => match r with | .ok (.ret v) => Q v s' | .ok _ => False | .error e => E e s') s) : wpAny M A (callBorrowed f pos) Q E s := by
  intro Γ p hΓ
  unfold callBorrowed
  rw [Sem.wp_call]
  refine wpCode_mono (fun r s' h => ?_) (hc _ p rfl (hΓ.enter _ none p (by intro x; cases x)))
  rcases r with e | (v | _ | _ | _) <;> first | exact h | exact h.elim
theorem borrows_meth {h : Heap} {mth f x : Addr} {fo : Obj} {d : FuncData} (h1 : h.get? mth = some (methodObj (.ref f) (.ref x))) (h2 : h.get? f = some fo) (hd : fo.data = .func d) : Looks M h (borrowsExactly (.ref mth)) true := by
  intro A Q E s k q
  walk_at "open"
  obtain ⟨oc, od, oda, osl⟩ := fo
  walk_at "shut"
  dsimp only at hd
  subst hd
  walk_at "open"
  obtain ⟨hh, g, dr, t, os⟩ := s
  walk_at "shut"
  have ho1 := k _ _ h1
  have ho2 := k _ _ h2
  dsimp only at ho1 ho2
  unfold borrowsExactly
  repeat lk
  exact q
end
section
variable {w : World} {A : Around} {E : Value → Shared → Prop} {s : Shared}
noncomputable abbrev citer (mth : Addr) (t : Tok) : Obj := { cls := .type "callable_iterator", data := .fields #[.ref mth, .str (Str.ofString "") t, .bool false] }
theorem slot_citer_next : Slot "callable_iterator" "__next__" "callable_iterator.__next__" := .of (owner := "callable_iterator") (n := "__next__") (by rw [typeLookup_type, builtinLookup_eq_fast]; kernel_rfl) (by decide +kernel) (by decide +kernel) (by decide +kernel) (by first | exact .inl (by decide +kernel) | exact .inr (by decide +kernel)) (by rw [isSubtype_type]; kernel_rfl)
theorem slot_citer_iter : Slot "callable_iterator" "__iter__" "callable_iterator.__iter__" := .of (owner := "callable_iterator") (n := "__iter__") (by rw [typeLookup_type, builtinLookup_eq_fast]; kernel_rfl) (by decide +kernel) (by decide +kernel) (by decide +kernel) (by first | exact .inl (by decide +kernel) | exact .inr (by decide +kernel)) (by rw [isSubtype_type]; kernel_rfl)
theorem entry_citer_next : entryFor table "callable_iterator.__next__" = some Builtin.«callable_iterator.__next__» := entryFor_of_tree (by kernel_rfl)
theorem next_citer {I mth f x : Addr} {t : Tok} {fo : Obj} {d : FuncData} {Q : Option Value → Shared → Prop} (hh : A.handled = none) (hI : s.heap.get? I = some (citer mth t)) (h1 : s.heap.get? mth = some (methodObj (.ref f) (.ref x))) (h2 : s.heap.get? f = some fo) (hd : fo.data = .func d)
    (k : codeAny (model prg w) A.in1 (.call (.ref f) ⟨[.ref x], []⟩) (fun r s' => ∃ c tc, r = .ok (.ret (.str c tc)) ∧ s'.heap.get? I = some (citer mth t) ∧
      (((c == Str.ofString "") = false ∧ Q (some (.str c tc)) s') ∨
       (c = Str.ofString "" ∧ s'.heap.get? mth = some (methodObj (.ref f) (.ref x)) ∧ s'.heap.get? f = some fo ∧ ∀ h', Heap.ExtBut I s'.heap h' → Q none { s' with heap := h' }))) s) :
    wpAny (model prg w) A (pyNext (.ref I)) Q E s := by
  have LB := borrows_meth (M := model prg w) h1 h2 hd
  have f0 := looks_field (M := model prg w) hI 0 (v := .ref mth) rfl
  have f2 := looks_field (M := model prg w) hI 2 (v := .bool false) rfl
  have hT : s.TypeIs (.ref I) "callable_iterator" := ⟨_, hI, rfl⟩
  unfold pyNext
  refine wpAny_bind (wpAny_attempt (wpAny_callSpecial?_slot (name := Str.ofString "__next__") hT slot_citer_next
    (wpAny_call_entry slot_citer_next hT entry_citer_next ?_ (by kernel_rfl))))
  show wpAny _ _ (Builtin.«callable_iterator.__next__» ⟨[.ref I], []⟩) _ _ _
  unfold Builtin.«callable_iterator.__next__»
  refine wpAny_bind (wpAny_pure (wpAny_bind (f2.at ?_)))
  rw [if_neg (by decide)]
  refine wpAny_bind (f0.at (wpAny_bind (wpAny_attempt ?_)))
  unfold callOutOfASlot
  refine wpAny_bind (LB.at ?_)
  rw [if_pos rfl]
  refine borrowed_call (method_call h1 (codeAny_mono k fun r s' hq => ?_))
  walk_at "open"
  obtain ⟨c, tc, rfl, hI', hq⟩ := hq
  walk_at "shut"
  dsimp only
  clear f0 f2 LB
  have f0 := looks_field (M := model prg w) hI' 0 (v := .ref mth) rfl
  have f1 := looks_field (M := model prg w) hI' 1 (v := .str (Str.ofString "") t) rfl
  have f2 := looks_field (M := model prg w) hI' 2 (v := .bool false) rfl
  refine wpAny_bind (f2.at ?_)
  rw [if_neg (by decide)]
  refine wpAny_bind (f1.at (wpAny_bind (wpAny_holding ?_)))
  refine wpAny_eqBool_str ?_
  rcases hq with ⟨hne, hQ⟩ | ⟨rfl, h1', h2', hQ⟩
  · have hne' : decide (Str.ofString "" = c) = false := by
      refine decide_eq_false fun q => ?_
      rw [← q] at hne
      exact absurd hne (by decide)
    rw [hne', if_pos (by decide)]
    exact wpAny_pure ⟨_, rfl, wpAny_pure hQ⟩
  · rw [decide_eq_true rfl, if_neg (by decide)]
    have LB := borrows_meth (M := model prg w) h1' h2' hd
    refine wpAny_bind (wpAny_rule (wpAny_bind ?_))
    show wpAny _ _ (field (.ref I) 0 >>= _) _ _ _
    refine wpAny_bind (f0.at ?_)
    show wpAny _ _ (slotLetsGo _ (.ref mth) _ >>= _) _ _ _
    unfold slotLetsGo
    refine wpAny_bind (wpAny_bind (LB.at ?_))
    rw [if_pos rfl]
    refine wpAny_pure ?_
    refine wpAny_bind (wpAny_setField hI' rfl (by simp -iota) ?_)
    refine wpAny_bind (wpAny_setField (Heap.get?_update_self _ hI' rfl) rfl (by simp -iota) ?_)
    refine wpAny_setField (Heap.get?_update_self _ (Heap.get?_update_self _ hI' rfl) rfl) rfl (by simp -iota) ?_
    show wpAny _ _ (newExc (.type "StopIteration") [] >>= _) _ _ _
    refine wpAny_bind ?_
    simp -iota only [newExc, newTuple]
    refine wpAny_bind (wpAny_newObj_type ?_ (by size_fits))
    refine wpAny_bind (m := firstArgMember _ _) (wpAny_of_eq (a := Value.none) (by first | rfl | (simp -iota only [firstArgMember]; rfl)) ?_)
    refine wpAny_newObj_type ?_ (by size_fits)
    simp -iota only [raiseNew]
    refine wpAny_bind (wpAny_handled ?_)
    rw [show A.in1.handled = none from hh]
    refine wpAny_bind (wpAny_pure (wpAny_throw ?_))
    refine wpAny_bind (wpAny_isInstance (T := "StopIteration") (b := true) ⟨_, Heap.get?_push_size _ rfl, rfl⟩ isSubtype_stop ?_)
    refine wpAny_pure (hQ _ ?_)
    have z : ∀ f g k, Heap.ExtBut I s'.heap (((s'.heap.update I f).update I g).update I k) := fun _ _ _ b o hb e => (Heap.SameBut.update ..).extBut b o hb ((Heap.SameBut.update ..).extBut b o hb ((Heap.SameBut.update ..).extBut b o hb e))
    exact Heap.ExtBut.push (Heap.ExtBut.push (z _ _ _) _) _
end
section
variable {w : World} {A : Around} {E : Value → Shared → Prop} {s : Shared}
theorem iter_two {q f x : Addr} {t : Tok} {Q : Value → Shared → Prop} (h1 : s.heap.get? q = some (methodObj (.ref f) (.ref x))) (k : Q (.ref s.heap.objs.size) { s with heap := s.heap.push (citer q t) }) :
    wpAny (model prg w) A (call (.builtin "iter") [.ref q, .str (Str.ofString "") t]) Q E s := by
  walk_at "open"
  obtain ⟨hh, g, dr, tk, os⟩ := s
  walk_at "shut"
  dsimp only at h1
  have he : entryFor table "iter" = some Builtin.«iter» := entryFor_of_tree (by kernel_rfl)
  have LT : Looks (model prg w) hh (typeOf (.ref q)) (.type "method") := (Looks.ld (part := none) h1).andThen .now
  have S1 : Looks (model prg w) hh (typeLookup (.type "method") "__call__") (some (.builtin "method.__call__")) := Looks.of_pure (by rw [typeLookup_type, builtinLookup_eq_fast]; kernel_rfl)
  have hc : checkBuiltinCall "iter" ⟨[.ref q, .str (Str.ofString "") t], []⟩ = pure () := by kernel_rfl
  refine wpAny_call (codeAny_call_builtin (by decide +kernel) he ?_)
  rw [hc]
  refine wpAny_pure ?_
  unfold Builtin.«iter»
  refine wpAny_bind (wpAny_pure ?_)
  dsimp only
  refine wpAny_bind ?_
  unfold specialOf
  refine wpAny_bind (LT.at (S1.at ?_))
  rw [if_neg (by decide)]
  repeat lk

  exact k
theorem iter_two' {h₀ : Heap} {L : Addr} {m : Str → Option Value} {news : Led} {q f x : Addr} {t : Tok} {Q : Value → Shared → Prop} (F : Fr h₀ L s.heap m) (N : News h₀ L s.heap news) (hm : (q, methodObj (.ref f) (.ref x)) ∈ news)
    (k : ∀ I h', Fr h₀ L h' m → News h₀ L h' ((I, citer q t) :: news) → (∀ p ∈ news, p.1 < I) → Q (.ref I) { s with heap := h' }) :
    wpAny (model prg w) A (call (.builtin "iter") [.ref q, .str (Str.ofString "") t]) Q E s :=
  iter_two (N _ hm).1 (k _ _ (F.push _) (News.push F N _ rfl) fun p hp => Heap.lt_size (N p hp).1)
end
end Mine

end
section
open PySem PySem.W PySem.W.X PyProof.Rows PySem.Calls PySem.Spec PyProof.V
namespace Mine
section
variable {prog : Program} {w : World} {A : Around} {E : Value → Shared → Prop} {s : Shared} {env : Env} {g : Heap} {x : Str} {body : List Stmt} {Q : Flow → Shared → Prop} {m : Str → Option Value} {news : Led} {px pos : Pos} {iter : Expr}
noncomputable def Turn (g : Heap) (L : Addr) (J : Nat → (Str → Option Value) → Led → Prop) (n : Nat) (s : Shared) (Q : Flow → Shared → Prop) (f : Flow) (s₃ : Shared) : Prop := match f with
  | .ret v => Q (.ret v) s₃
  | .brk => Q .next s₃
  | _ => ∃ k h tk m' n', k < n ∧ s₃ = { s with heap := h, toks := tk } ∧ Fr g L h m' ∧ News g L h n' ∧ J k m' n'
theorem for_c (hx : env.kindOf x = some .local) (hp : (env.scope.kind == .class || (env.scope.kind == .module && env.locals != env.globals)) = false)
    (J : Nat → (Str → Option Value) → Led → Prop) {it : Value} {n : Nat} (h0 : J n m news) (F : Fr g env.locals s.heap m) (N : News g env.locals s.heap news)
    (turn : ∀ k m₁ n₁ h tk, J k m₁ n₁ → Fr g env.locals h m₁ → News g env.locals h n₁ → wpAny (model prog w) A (pyNext it) (fun r s₁ => match r with
      | none => Q .next s₁
      | some v => ∃ h₁ tk₁ n₂, s₁ = { s with heap := h₁, toks := tk₁ } ∧ Fr g env.locals h₁ m₁ ∧ News g env.locals h₁ n₂ ∧
        ∀ h₂ tk₂, Fr g env.locals h₂ (fun y => if y = x then some v else m₁ y) → News g env.locals h₂ n₂ → wpAny (model prog w) A (execs body env) (Turn g env.locals J k s Q) E { s with heap := h₂, toks := tk₂ }) E { s with heap := h, toks := tk })
    (hE : PassesOwn (model prog w) A env E) :
    codeAny (model prog w) A (.forLoop (.Name x px) it body [] env) (fun r s' => match r with | .ok f => Q f s' | .error e => cameBackBy (model prog w) A env E e s') s := by
  refine codeAny_forLoop (fun k s' => ∃ h tk m' n', s' = { s with heap := h, toks := tk } ∧ Fr g env.locals h m' ∧ News g env.locals h n' ∧ J k m' n') ?_ n ⟨s.heap, s.toks, m, news, rfl, F, N, h0⟩
  rintro k s' rq1
  walk_at "open"
  obtain ⟨h, tk, m', n', rfl, F', N', hJ⟩ := rq1
  walk_at "shut"
  refine wpAny_mono (wpAny_passesOwn hE (turn k m' n' h tk hJ F' N')) (fun r s₁ hr => ?_) fun _ _ e => e
  cases r with
  | none => exact wpAny_execs_nil hr
  | some v =>
    walk_at "open"
    obtain ⟨h₁, tk₁, n₂, rfl, F₁, N₁, hb⟩ := hr
    walk_at "shut"
    refine wpAny_assign_Name (wpAny_storeName_local hx F₁.ns (fun h₂ hn₂ hs₂ => ?_) hp)
    refine wpAny_mono (wpAny_passesOwn hE (hb h₂ _ (F₁.set hn₂ hs₂) (N₁.set hs₂))) (fun f s₃ h₃ => ?_) fun _ _ e => e
    cases f with
    | ret v => exact h₃
    | brk => exact h₃
    | cont => obtain ⟨k', h', tk', m₃, n₃, hk, rfl, F₃, N₃, hJ₃⟩ := h₃; exact ⟨k', hk, _, _, _, _, rfl, F₃, N₃, hJ₃⟩
    | next => obtain ⟨k', h', tk', m₃, n₃, hk, rfl, F₃, N₃, hJ₃⟩ := h₃; exact ⟨k', hk, _, _, _, _, rfl, F₃, N₃, hJ₃⟩
end
theorem citer_iter {w : World} {A : Around} {E : Value → Shared → Prop} {s : Shared} {I q : Addr} {t : Tok} {Q : Value → Shared → Prop} (hI : s.heap.get? I = some (citer q t)) (h : Q (.ref I) s) : wpAny (model prg w) A (pyIter (.ref I)) Q E s := by
  have hT : s.TypeIs (.ref I) "callable_iterator" := ⟨_, hI, rfl⟩
  have he : entryFor table "callable_iterator.__iter__" = some Builtin.«dict_keyiterator.__iter__» := entryFor_alias (id' := "dict_keyiterator.__iter__") (by rw [fastTable_eq_tree]; kernel_rfl) rfl (by decide +kernel) (by rw [fastTable_eq_tree]; kernel_rfl)
  refine wpAny_pyIter_slot hT slot_citer_iter (wpAny_call_entry slot_citer_iter hT he ?_ (by kernel_rfl))
  show wpAny _ _ (ret (.ref I)) _ _ _
  exact wpAny_pure ⟨_, rfl, "callable_iterator", .builtin "callable_iterator.__next__", hT, (by rw [typeLookup_type, builtinLookup_eq_fast]; kernel_rfl), h⟩
theorem next_c {w : World} {A : Around} {E : Value → Shared → Prop} {s : Shared} {g : Heap} {L : Addr} {m : Str → Option Value} {news : Led} {I mth f x : Addr} {t : Tok} {fo : Obj} {d : FuncData} {Q : Option Value → Shared → Prop} (hh : A.handled = none) (F : Fr g L s.heap m) (N : News g L s.heap ((I, citer mth t) :: news))
    (hm : (mth, methodObj (.ref f) (.ref x)) ∈ news) (hf : g.get? f = some fo) (hd : fo.data = .func d)
    (k : codeAny (model prg w) A.in1 (.call (.ref f) ⟨[.ref x], []⟩) (fun r s' => ∃ c tc news', r = .ok (.ret (.str c tc)) ∧ Fr g L s'.heap m ∧ News g L s'.heap ((I, citer mth t) :: news') ∧ (mth, methodObj (.ref f) (.ref x)) ∈ news' ∧
      (((c == Str.ofString "") = false ∧ Q (some (.str c tc)) s') ∨
       (c = Str.ofString "" ∧ (∀ p ∈ news', p.1 ≠ I) ∧ ∀ h', Fr g L h' m → News g L h' news' → Q none { s' with heap := h' }))) s) :
    wpAny (model prg w) A (pyNext (.ref I)) Q E s := by
  refine next_citer hh (N _ (List.mem_cons_self ..)).1 (N _ (List.mem_cons_of_mem _ hm)).1 (F.keep _ _ hf) hd (codeAny_mono k fun r s' hq => ?_)
  walk_at "open"
  obtain ⟨c, tc, news', rfl, F', N', hm', hq⟩ := hq
  walk_at "shut"
  refine ⟨c, tc, rfl, (N' _ (List.mem_cons_self ..)).1, ?_⟩
  rcases hq with ⟨hne, hQ⟩ | ⟨hc, hap, hQ⟩
  · exact .inl ⟨hne, hQ⟩
  · refine .inr ⟨hc, (N' _ (List.mem_cons_of_mem _ hm')).1, F'.keep _ _ hf, fun h' hx => hQ h' ?_ ?_⟩
    · have nI := N' _ (List.mem_cons_self ..)
      walk_at "open"
      obtain ⟨⟨oL, es, ep, hL, r⟩, kp, ab⟩ := F'
      walk_at "shut"
      refine ⟨⟨oL, es, ep, hx _ _ (fun q => nI.2.1 q.symm) hL, r⟩, fun b o e => hx _ _ (fun q => ?_) (kp b o e), ab⟩
      rw [q, nI.2.2] at e
      cases e
    · exact fun p hp => ⟨hx _ _ (hap p hp) (N' p (List.mem_cons_of_mem _ hp)).1, (N' p (List.mem_cons_of_mem _ hp)).2⟩
end Mine

end
section
open PySem PySem.W PySem.W.X PyProof.Rows PySem.Calls PySem.Spec PyProof.V
namespace Mine
section
variable {prog : Program} {w : World} {A : Around} {E : Value → Shared → Prop} {s : Shared} {env : Env} {g : Heap} {x : Str} {body : List Stmt} {Q : Flow → Shared → Prop} {m : Str → Option Value} {news : Led} {px : Pos}
inductive StepCe (g : Heap) (L I : Addr) (oI : Obj) (c : Addr) (Jn : (Str → Option Value) → Led → Prop) (s s' : Shared) : Prop
  | mk (h' : Heap) (tk' : Nat) (m' : Str → Option Value) (n' : Led) (o' : Obj) (v' : Option Value) (e : s' = { s with heap := h', toks := tk' }) (F : Fr g L h' m') (N : News g L h' ((I, oI) :: (c, o') :: n')) (ho : o'.data = .cell v') (hn : ∀ p ∈ n', p.1 ≠ I ∧ p.1 ≠ c) (hJ : Jn m' n') : StepCe g L I oI c Jn s s'
inductive RCi (s : Shared) (g : Heap) (L I c : Addr) (a : Int) (n : Nat) (J : Nat → (Str → Option Value) → Led → Prop) (k : Nat) (s' : Shared) : Prop
  | mk (i : Nat) (h : Heap) (tk : Nat) (m' : Str → Option Value) (n' : Led) (oI o' : Obj) (v' : Option Value) (e : s' = { s with heap := h, toks := tk }) (hi : i ≤ n) (hk : k = n + 1 - i) (it : IsRangeIter h I (a + (i : Nat) * 1) ((n : Int) - (i : Nat)) 1) (F : Fr g L h m') (N : News g L h ((I, oI) :: (c, o') :: n')) (ho : o'.data = .cell v') (hn : ∀ p ∈ n', p.1 ≠ I ∧ p.1 ≠ c) (hJ : J i m' n') : RCi s g L I c a n J k s'
inductive LCi (s : Shared) (g : Heap) (L I l c : Addr) (vs : List Value) (J : Nat → (Str → Option Value) → Led → Prop) (k : Nat) (s' : Shared) : Prop
  | mk (i : Nat) (h : Heap) (tk : Nat) (m' : Str → Option Value) (n' : Led) (oI o' : Obj) (v' : Option Value) (e : s' = { s with heap := h, toks := tk }) (hi : i ≤ vs.length) (hk : k = vs.length + 1 - i) (it : h.IsListIter I l i ∧ h.IsList l vs.toArray) (F : Fr g L h m') (N : News g L h ((I, oI) :: (c, o') :: n')) (ho : o'.data = .cell v') (hn : ∀ p ∈ n', p.1 ≠ I ∧ p.1 ≠ c) (hJ : J i m' n') : LCi s g L I l c vs J k s'
noncomputable def StepC (g : Heap) (L I : Addr) (oI : Obj) (c : Addr) (Jn : (Str → Option Value) → Led → Prop) (s : Shared) (Q : Flow → Shared → Prop) (fl : Flow) (s' : Shared) : Prop := match fl with
  | .ret v => Q (.ret v) s'
  | .brk => Q .next s'
  | _ => StepCe g L I oI c Jn s s'
theorem for_rc {r c : Addr} {a b : Int} {t u v : Tok} {n : Nat} {oc : Obj} {v0 : Option Value} (hh : A.handled = none) (hx : env.kindOf x = some .cell) (hkf : env.scope.kind = .function) (hcl : env.cells.lookup x = some c) (J : Nat → (Str → Option Value) → Led → Prop)
    (hr : IsRange s.heap r a b 1 t u v) (hsm : Builtin.Range.small a b 1 = true) (hn : Builtin.Range.rangeSize a b 1 = ((n : Nat) : Int))
    (F : Fr g env.locals s.heap m) (N : News g env.locals s.heap ((c, oc) :: news)) (hoc : oc.data = .cell v0) (hcn : ∀ p ∈ news, p.1 ≠ c) (h0 : J 0 m news)
    (step : ∀ I i t₀ m₁ news₁ h tk oI o', i < n → J i m₁ news₁ → (∀ p ∈ news₁, p.1 ≠ I ∧ p.1 ≠ c) → I ≠ c → o'.data = .cell (some (.int (a + (i : Int)) t₀)) → Fr g env.locals h m₁ → News g env.locals h ((I, oI) :: (c, o') :: news₁) →
      wpAny (model prog w) A (execs body env) (StepC g env.locals I oI c (J (i + 1)) { s with heap := h, toks := tk } Q) E { s with heap := h, toks := tk })
    (done : ∀ h tk m₁ news₁, J n m₁ news₁ → Fr g env.locals h m₁ → News g env.locals h news₁ → Q .next { s with heap := h, toks := tk })
    (hE : PassesOwn (model prog w) A env E) :
    wpAny (model prog w) A (pyIter (.ref r)) (fun it s₂ => codeAny (model prog w) A (.forLoop (.Name x px) it body [] env) (fun r s' => match r with | .ok f => Q f s' | .error e => cameBackBy (model prog w) A env E e s') s₂) E s := by
  refine wpAny_pyIter_range hr hsm ?_
  have W := LCg.range_walks (prog := prog) (w := w) (I := s.heap.objs.size) hh a n
  have hcI : c ≠ s.heap.objs.size := Nat.ne_of_lt (Heap.lt_size (N _ (List.mem_cons_self ..)).1)
  have hIL : env.locals ≠ s.heap.objs.size := Nat.ne_of_lt F.ns.lt
  have hI0 : g.get? s.heap.objs.size = none := fresh_none F
  have hcL : c ≠ env.locals := (N _ (List.mem_cons_self ..)).2.1
  have hc0 : g.get? c = none := (N _ (List.mem_cons_self ..)).2.2
  generalize hIe : s.heap.objs.size = I at *
  refine codeAny_forLoop (RCi s g env.locals I c a n J) ?_ (n + 1)
    ⟨0, _, s.toks, m, news, { cls := .type "range_iterator", data := .fields #[rawInt a, rawInt (Builtin.Range.rangeSize a b 1), rawInt 1] }, oc, v0, rfl, Nat.zero_le _, rfl, (by show IsRangeIter _ _ _ _ _; rw [hn, ← hIe]; simpa using Heap.get?_push_size _ rfl), F.push _, fun p hp => ?_, hoc, fun p hp => ⟨?_, hcn p hp⟩, h0⟩
  · rintro k s' rq1
    walk_at "open"
    obtain ⟨i, h, tk, m', n', oI, o', v', rfl, hi, rfl, hst, F', N', ho', hoff, hJ⟩ := rq1
    walk_at "shut"
    have NI := N' _ (List.mem_cons_self ..)
    have NC := N' _ (List.mem_cons_of_mem _ (List.mem_cons_self ..))
    by_cases hlt : i < n
    · refine W.item i _ _ _ hlt hst fun v h₂ tk₂ hPv hst₂ hk₂ => ?_
      obtain ⟨t₀, rfl⟩ := hPv
      have hc₂ : h₂.get? c = some o' := hk₂ _ _ (by simpa using hcI) NC.1
      refine wpAny_assign_Name (wpAny_storeName_cell hkf hx hcl ⟨o', hc₂, ho'⟩ fun h₃ hcell hs₃ => ?_)
      walk_at "open"
      obtain ⟨o₃, hc₃, ho₃⟩ := hcell
      walk_at "shut"
      have hst₃ : IsRangeIter h₃ I (a + ((i + 1 : Nat) : Int) * 1) ((n : Int) - ((i + 1 : Nat) : Int)) 1 := W.frame _ _ _ hst₂ fun b hb o e => hs₃.extBut b o (fun q => by rw [List.mem_singleton.mp hb] at q; exact hcI q.symm) e
      have F₃ : Fr g env.locals h₃ m' := (LCg.fr_but F' hk₂ hIL hI0).change hs₃ hcL hc0
      have N₃ : News g env.locals h₃ ((I, _) :: (c, o₃) :: n') := fun p hp => by
        rcases List.mem_cons.mp hp with rfl | hp
        · exact ⟨hst₃, Ne.symm hIL, hI0⟩
        · rcases List.mem_cons.mp hp with rfl | hp
          · exact ⟨hc₃, hcL, hc0⟩
          · have z := N' p (List.mem_cons_of_mem _ (List.mem_cons_of_mem _ hp))
            exact ⟨hs₃.extBut _ _ (hoff p hp).2 (hk₂ _ _ (by simpa using (hoff p hp).1) z.1), z.2⟩
      refine wpAny_mono (wpAny_passesOwn hE (step I i t₀ m' n' h₃ tk₂ _ o₃ hlt hJ hoff (Ne.symm hcI) ho₃ F₃ N₃)) (fun f s₃ h₄ => ?_) fun _ _ e => e
      cases f with
      | ret v => exact h₄
      | brk => exact h₄
      | cont =>
        walk_at "open"
        obtain ⟨h', tk', m₅, n₅, o₅, v₅, e, F₅, N₅, ho₅, hoff₅, hJ₅⟩ := h₄
        walk_at "shut"
        exact ⟨n + 1 - (i + 1), sub_dec hlt, i + 1, h', tk', m₅, n₅, _, o₅, v₅, e, hlt, rfl, (N₅ _ (List.mem_cons_self ..)).1, F₅, N₅, ho₅, hoff₅, hJ₅⟩
      | next =>
        walk_at "open"
        obtain ⟨h', tk', m₅, n₅, o₅, v₅, e, F₅, N₅, ho₅, hoff₅, hJ₅⟩ := h₄
        walk_at "shut"
        exact ⟨n + 1 - (i + 1), sub_dec hlt, i + 1, h', tk', m₅, n₅, _, o₅, v₅, e, hlt, rfl, (N₅ _ (List.mem_cons_self ..)).1, F₅, N₅, ho₅, hoff₅, hJ₅⟩
    · obtain rfl : i = n := Nat.le_antisymm hi (Nat.not_lt.mp hlt)
      refine W.done _ _ _ hst fun h₂ tk₂ hk₂ => ?_
      refine wpAny_execs_nil (done h₂ tk₂ m' n' hJ (LCg.fr_but F' hk₂ hIL hI0) (LCg.news_but (fun p hp => N' p (List.mem_cons_of_mem _ (List.mem_cons_of_mem _ hp))) hk₂ fun p hp => (hoff p hp).1))
  · rcases List.mem_cons.mp hp with rfl | hp
    · exact ⟨hIe ▸ Heap.get?_push_size _ rfl, Ne.symm hIL, hI0⟩
    · exact ⟨Heap.get?_push_of_some _ (N p hp).1, (N p hp).2⟩
  · rw [← hIe]
    exact Nat.ne_of_lt (Heap.lt_size (N p (List.mem_cons_of_mem _ hp)).1)
theorem turnsOn {g h h₃ : Heap} {L I l c : Addr} {oI o' : Obj} {n' : Led} {vs : List Value} {n i : Nat} (N : News g L h ((I, oI) :: (c, o') :: n')) (hI : h₃.get? I = some oI) (it : h₃.IsListIter I l i) (hG : (l, ({ cls := .type "list", data := .seq vs.toArray n } : Obj)) ∈ n') :
    h.IsListIter I l i ∧ h.IsList l vs.toArray := by
  walk_at "open"
  obtain ⟨o, e, r⟩ := it
  walk_at "shut"
  rw [hI] at e
  cases e
  exact ⟨⟨_, (N _ (List.mem_cons_self ..)).1, r⟩, ⟨_, (N _ (List.mem_cons_of_mem _ (List.mem_cons_of_mem _ hG))).1, rfl, n, rfl⟩⟩
theorem for_lc {l c : Addr} {vs : List Value} {n : Nat} {oc : Obj} {v0 : Option Value} (hh : A.handled = none) (hx : env.kindOf x = some .cell) (hkf : env.scope.kind = .function) (hcl : env.cells.lookup x = some c) (J : Nat → (Str → Option Value) → Led → Prop)
    (hG : ∀ i m' n', J i m' n' → (l, ({ cls := .type "list", data := .seq vs.toArray n } : Obj)) ∈ n')
    (F : Fr g env.locals s.heap m) (N : News g env.locals s.heap ((c, oc) :: news)) (hoc : oc.data = .cell v0) (hcn : ∀ p ∈ news, p.1 ≠ c) (h0 : J 0 m news)
    (step : ∀ I i v m₁ news₁ h tk oI o', vs[i]? = some v → J i m₁ news₁ → (∀ p ∈ news₁, p.1 ≠ I ∧ p.1 ≠ c) → I ≠ c → o'.data = .cell (some v) → Fr g env.locals h m₁ → News g env.locals h ((I, oI) :: (c, o') :: news₁) →
      wpAny (model prog w) A (execs body env) (StepC g env.locals I oI c (J (i + 1)) { s with heap := h, toks := tk } Q) E { s with heap := h, toks := tk })
    (done : ∀ h tk m₁ news₁, J vs.length m₁ news₁ → Fr g env.locals h m₁ → News g env.locals h news₁ → Q .next { s with heap := h, toks := tk })
    (hE : PassesOwn (model prog w) A env E) :
    wpAny (model prog w) A (pyIter (.ref l)) (fun it s₂ => codeAny (model prog w) A (.forLoop (.Name x px) it body [] env) (fun r s' => match r with | .ok f => Q f s' | .error e => cameBackBy (model prog w) A env E e s') s₂) E s := by
  have hls : s.heap.IsList l vs.toArray := ⟨_, (N _ (List.mem_cons_of_mem _ (hG _ _ _ h0))).1, rfl, n, rfl⟩
  have hlt : l < s.heap.objs.size := Heap.lt_size (N _ (List.mem_cons_of_mem _ (hG _ _ _ h0))).1
  refine wpAny_pyIter_list hls ?_
  have hne : l ≠ s.heap.objs.size := Nat.ne_of_lt hlt
  have W := Walks.list (prog := prog) (w := w) hh s.heap.objs.size l hne vs.toArray
  have hcI : c ≠ s.heap.objs.size := Nat.ne_of_lt (Heap.lt_size (N _ (List.mem_cons_self ..)).1)
  have hIL : env.locals ≠ s.heap.objs.size := Nat.ne_of_lt F.ns.lt
  have hI0 : g.get? s.heap.objs.size = none := fresh_none F
  have hcL : c ≠ env.locals := (N _ (List.mem_cons_self ..)).2.1
  have hc0 : g.get? c = none := (N _ (List.mem_cons_self ..)).2.2
  have hlc : l ≠ c := hcn _ (hG _ _ _ h0)
  generalize hIe : s.heap.objs.size = I at *
  refine codeAny_forLoop (LCi s g env.locals I l c vs J) ?_ (vs.length + 1)
    ⟨0, _, s.toks, m, news, { cls := .type "list_iterator", data := .fields #[.ref l, .int 0 0] }, oc, v0, rfl, Nat.zero_le _, rfl, ⟨⟨_, hIe ▸ Heap.get?_push_size _ rfl, rfl, rfl⟩, hls.push _⟩, F.push _, fun p hp => ?_, hoc, fun p hp => ⟨?_, hcn p hp⟩, h0⟩
  · rintro k s' rq1
    walk_at "open"
    obtain ⟨i, h, tk, m', n', oI, o', v', rfl, hi, rfl, hst, F', N', ho', hoff, hJ⟩ := rq1
    walk_at "shut"
    have NI := N' _ (List.mem_cons_self ..)
    have NC := N' _ (List.mem_cons_of_mem _ (List.mem_cons_self ..))
    by_cases hlt : i < vs.length
    · refine W.item i _ _ _ (by simpa using hlt) hst fun v h₂ tk₂ hPv hst₂ hk₂ => ?_
      have hc₂ : h₂.get? c = some o' := hk₂ _ _ (by simpa using hcI) NC.1
      refine wpAny_assign_Name (wpAny_storeName_cell hkf hx hcl ⟨o', hc₂, ho'⟩ fun h₃ hcell hs₃ => ?_)
      walk_at "open"
      obtain ⟨o₃, hc₃, ho₃⟩ := hcell
      walk_at "shut"
      have hst₃ : h₃.IsListIter I l (i + 1) ∧ h₃.IsList l vs.toArray := W.frame _ _ _ hst₂ fun b hb o e => hs₃.extBut b o (fun q => by
        simp only [List.mem_cons, List.not_mem_nil, or_false] at hb
        rcases hb with hb | hb
        · rw [hb] at q; exact hcI q.symm
        · rw [hb] at q; exact hlc q) e
      walk_at "open"
      obtain ⟨oI₃, hI₃, _⟩ := id hst₃.1
      walk_at "shut"
      have F₃ : Fr g env.locals h₃ m' := (LCg.fr_but F' hk₂ hIL hI0).change hs₃ hcL hc0
      have N₃ : News g env.locals h₃ ((I, oI₃) :: (c, o₃) :: n') := fun p hp => by
        rcases List.mem_cons.mp hp with rfl | hp
        · exact ⟨hI₃, Ne.symm hIL, hI0⟩
        · rcases List.mem_cons.mp hp with rfl | hp
          · exact ⟨hc₃, hcL, hc0⟩
          · have z := N' p (List.mem_cons_of_mem _ (List.mem_cons_of_mem _ hp))
            exact ⟨hs₃.extBut _ _ (hoff p hp).2 (hk₂ _ _ (by simpa using (hoff p hp).1) z.1), z.2⟩
      refine wpAny_mono (wpAny_passesOwn hE (step I i v m' n' h₃ tk₂ oI₃ o₃ (by simpa using hPv) hJ hoff (Ne.symm hcI) ho₃ F₃ N₃)) (fun f s₃ h₄ => ?_) fun _ _ e => e
      cases f with
      | ret v => exact h₄
      | brk => exact h₄
      | cont =>
        walk_at "open"
        obtain ⟨h', tk', m₅, n₅, o₅, v₅, e, F₅, N₅, ho₅, hoff₅, hJ₅⟩ := h₄
        walk_at "shut"
        exact ⟨vs.length + 1 - (i + 1), sub_dec hlt, i + 1, h', tk', m₅, n₅, _, o₅, v₅, e, hlt, rfl, turnsOn N₅ hI₃ hst₃.1 (hG _ _ _ hJ₅), F₅, N₅, ho₅, hoff₅, hJ₅⟩
      | next =>
        walk_at "open"
        obtain ⟨h', tk', m₅, n₅, o₅, v₅, e, F₅, N₅, ho₅, hoff₅, hJ₅⟩ := h₄
        walk_at "shut"
        exact ⟨vs.length + 1 - (i + 1), sub_dec hlt, i + 1, h', tk', m₅, n₅, _, o₅, v₅, e, hlt, rfl, turnsOn N₅ hI₃ hst₃.1 (hG _ _ _ hJ₅), F₅, N₅, ho₅, hoff₅, hJ₅⟩
    · obtain rfl : i = vs.length := Nat.le_antisymm hi (Nat.not_lt.mp hlt)
      refine W.done _ _ _ (by simpa using hst) fun h₂ tk₂ hk₂ => ?_
      refine wpAny_execs_nil (done h₂ tk₂ m' n' hJ (LCg.fr_but F' hk₂ hIL hI0) (LCg.news_but (fun p hp => N' p (List.mem_cons_of_mem _ (List.mem_cons_of_mem _ hp))) hk₂ fun p hp => (hoff p hp).1))
  · rcases List.mem_cons.mp hp with rfl | hp
    · exact ⟨hIe ▸ Heap.get?_push_size _ rfl, Ne.symm hIL, hI0⟩
    · exact ⟨Heap.get?_push_of_some _ (N p hp).1, (N p hp).2⟩
  · rw [← hIe]
    exact Nat.ne_of_lt (Heap.lt_size (N p (List.mem_cons_of_mem _ hp)).1)
end
end Mine

end
section
open PySem PySem.W PySem.W.X PyProof.Rows PySem.Calls PySem.Spec PyProof.V
namespace Mine
section
variable {prog : Program} {w : World} {A : Around} {E : Value → Shared → Prop} {s : Shared} {h₀ : Heap} {L : Addr} {m : Str → Option Value} {env : Env}
theorem str_walks (hh : A.handled = none) (I : Addr) (x : Str) (t : Tok) : ∃ St : Nat → Heap → Prop, Walks prog w A I [I] [I] x.cps.size (SignAt x) St ∧ (∀ h, h.get? I = some { cls := .type (strIterType x), data := .fields #[.str x t, .int 0 0] } → St 0 h) ∧
    (∀ i h, St i h → ∃ o, h.get? I = some o) ∧ ∀ i h h' o, St i h → h.get? I = some o → h'.get? I = some o → St i h' := by
  cases ha : x.cps.all (· < 128)
  · refine ⟨_, Walks.strWide hh I x t, fun h e => ⟨_, e, by simp [strIterType, ha], rfl⟩, fun i h st => by obtain ⟨o, e, _⟩ := st; exact ⟨o, e⟩, fun i h h' o st e e' => ?_⟩
    walk_at "open"
    obtain ⟨o', q, r⟩ := st
    walk_at "shut"
    rw [e] at q; cases q; exact ⟨o, e', r⟩
  · refine ⟨_, Walks.strAscii hh I x t, fun h e => ⟨_, e, by simp [strIterType, ha], rfl⟩, fun i h st => by obtain ⟨o, e, _⟩ := st; exact ⟨o, e⟩, fun i h h' o st e e' => ?_⟩
    walk_at "open"
    obtain ⟨o', q, r⟩ := st
    walk_at "shut"
    rw [e] at q; cases q; exact ⟨o, e', r⟩
noncomputable def SrcS (prog : Program) (w : World) (A : Around) (h₀ : Heap) (L : Addr) (m : Str → Option Value) (R : Shared → Str → Led → Prop) (xv : Value) (s₁ : Shared) : Prop :=
  ∃ x t news, xv = .str x t ∧ A.handled = none ∧ Fr h₀ L s₁.heap m ∧ News h₀ L s₁.heap news ∧ x.cps.size ≤ sizeLine ∧ ∀ s₂ : Shared, (∃ h, s₂ = { s₁ with heap := h }) → R s₂ x news
theorem ListComp_S {ct elt iter : Expr} {x : Str} {px : Pos} {scope : Scope} {cl : List (Str × Addr)} {pos : Pos} {Q : Value → Shared → Prop} (F₀ : Fr h₀ L s.heap m)
    (hclos : closureFor scope env = pure cl) (hcell : ∀ y ∈ scope.names, y.2 ≠ .cell) (hkind : scope.kind = .function)
    (hnames : ∀ y ∈ scope.names, y.2 = .local → scope.names.lookup y.1 = some .local) (hx : scope.names.lookup x = some .local)
    (h : wpAny (model prog w) A (eval iter env) (SrcS prog w A h₀ L m fun s₂ y news => LCt.CompRestT prog w A h₀ L m env ct elt x scope cl s₂ (fun _ => True) (SignAt y) (LCg.FinE h₀ L m s₂ Q) y.cps.size 0 [] news) E s)
    (hs : ∀ x, foldedSetIterable iter env x = pure x) :
    wpAny (model prog w) A (eval (.ListComp elt [⟨.Name x px, iter, [ct], 0⟩] scope pos) env) Q E s := by
  rw [eval_ListComp]
  refine wpAny_comprehension_free (use := none) rfl hs hclos hkind hnames (wpAny_mono h (fun xv s₁ h₁ => ?_) fun _ _ e => e)
  walk_at "open"
  obtain ⟨y, t, news, rfl, hh, F, N, hsz, R⟩ := h₁
  walk_at "shut"
  refine wpAny_pyIter_strU ?_
  walk_at "open"
  obtain ⟨St, W, st0, stI, stK⟩ := str_walks (prog := prog) (w := w) hh s₁.heap.objs.size y t
  walk_at "shut"
  refine LCt.block_T W hsz stI (fun i h h' o nw st e e' _ _ _ => stK i h h' o st e e') hcell hkind hx (st0 _ (Heap.get?_push_size _ rfl)) (fun b hb => ?_)
    (F.keeps fun _ _ e => Heap.get?_push_of_some _ e) (N.grown fun _ _ e => Heap.get?_push_of_some _ e) (Nat.ne_of_lt F.ns.lt) (next_is_new F) (fun p hp => Nat.ne_of_lt (Heap.lt_size (N p hp).1)) trivial (R _ ⟨_, rfl⟩) ?_
  · rw [List.mem_singleton.mp hb]
    show s₁.heap.objs.size < (s₁.heap.push _).objs.size
    rw [Heap.size_push]; exact Nat.lt_succ_self _
  · intro D C h tk m' ys news' F' N' o1 hn hC₀ hD₀ hCL hDL hCD offC fin
    refine ⟨m', hn, fun h'' hs'' => fin D h'' tk (F'.change hs'' hCL hC₀) (fun p hp => ?_) o1⟩
    refine ⟨hs''.extBut _ _ ?_ (N' p hp).1, (N' p hp).2⟩
    rcases List.mem_cons.mp hp with rfl | hp
    · exact Ne.symm hCD
    · exact offC p hp
theorem ListComp_SU {elt iter : Expr} {x : Str} {px : Pos} {scope : Scope} {cl : List (Str × Addr)} {pos : Pos} {Q : Value → Shared → Prop} (F₀ : Fr h₀ L s.heap m)
    (hclos : closureFor scope env = pure cl) (hcell : ∀ y ∈ scope.names, y.2 ≠ .cell) (hkind : scope.kind = .function)
    (hnames : ∀ y ∈ scope.names, y.2 = .local → scope.names.lookup y.1 = some .local) (hx : scope.names.lookup x = some .local)
    (h : wpAny (model prog w) A (eval iter env) (SrcS prog w A h₀ L m fun s₂ y news => LCg.CompRest prog w A h₀ L m env elt x scope cl s₂ (fun _ => True) (SignAt y) (LCg.FinE h₀ L m s₂ Q) y.cps.size 0 [] news) E s)
    (hs : ∀ x, foldedSetIterable iter env x = pure x) :
    wpAny (model prog w) A (eval (.ListComp elt [⟨.Name x px, iter, [], 0⟩] scope pos) env) Q E s := by
  rw [eval_ListComp]
  refine wpAny_comprehension_free (use := none) rfl hs hclos hkind hnames (wpAny_mono h (fun xv s₁ h₁ => ?_) fun _ _ e => e)
  walk_at "open"
  obtain ⟨y, t, news, rfl, hh, F, N, hsz, R⟩ := h₁
  walk_at "shut"
  refine wpAny_pyIter_strU ?_
  walk_at "open"
  obtain ⟨St, W, st0, stI, stK⟩ := str_walks (prog := prog) (w := w) hh s₁.heap.objs.size y t
  walk_at "shut"
  refine LCg.block_U W hsz stI (fun i h h' o nw st e e' _ _ _ => stK i h h' o st e e') hcell hkind hx (st0 _ (Heap.get?_push_size _ rfl)) (fun b hb => ?_)
    (F.keeps fun _ _ e => Heap.get?_push_of_some _ e) (N.grown fun _ _ e => Heap.get?_push_of_some _ e) (Nat.ne_of_lt F.ns.lt) (next_is_new F) (fun p hp => Nat.ne_of_lt (Heap.lt_size (N p hp).1)) trivial (R _ ⟨_, rfl⟩) ?_
  · rw [List.mem_singleton.mp hb]
    show s₁.heap.objs.size < (s₁.heap.push _).objs.size
    rw [Heap.size_push]; exact Nat.lt_succ_self _
  · intro D C h tk m' ys news' F' N' o1 hn hC₀ hD₀ hCL hDL hCD offC fin
    refine ⟨m', hn, fun h'' hs'' => fin D h'' tk (F'.change hs'' hCL hC₀) (fun p hp => ?_) o1⟩
    refine ⟨hs''.extBut _ _ ?_ (N' p hp).1, (N' p hp).2⟩
    rcases List.mem_cons.mp hp with rfl | hp
    · exact Ne.symm hCD
    · exact offC p hp
end
end Mine

end
section
open PySem PySem.W PySem.W.X PyProof.Rows PySem.Calls PySem.Spec PyProof.V
namespace Mine
noncomputable def okN {α : Type} (N : Nat) (P : α → Prop) : KasT α → Prop
  | .ret a => P a
  | .ask i j k => i < N ∧ j < N ∧ ∀ b, okN N P (k b)
theorem okN_bind {α β : Type} {N : Nat} {P : α → Prop} {Q : β → Prop} {f : α → KasT β} : ∀ {t : KasT α}, okN N P t → (∀ a, P a → okN N Q (f a)) → okN N Q (t.bind f)
  | .ret a, h, g => g a h
  | .ask _ _ k, h, g => ⟨h.1, h.2.1, fun b => okN_bind (h.2.2 b) g⟩
theorem okN_wp {α : Type} {N : Nat} {P : α → Prop} {cmp : Nat → Nat → (Bool → Shared → Prop) → Shared → Prop} {Inv : Shared → Prop} {Q : α → Shared → Prop}
    (hc : ∀ i j (C : Bool → Shared → Prop) s, i < N → j < N → Inv s → (∀ b s', Inv s' → C b s') → cmp i j C s) (hq : ∀ a s', P a → Inv s' → Q a s') : ∀ {t : KasT α} {s : Shared}, okN N P t → Inv s → t.kasWp cmp Q s
  | .ret a, s, h, hi => hq a s h hi
  | .ask i j k, s, h, hi => hc i j _ s h.1 h.2.1 hi fun b s' hi' => okN_wp hc hq (h.2.2 b) hi'
noncomputable def IsP (N : Nat) (p : Array Nat) : Prop := p.Perm (List.range N).toArray
theorem IsP.mem {N : Nat} {p : Array Nat} (h : IsP N p) (h0 : 0 < N) (i : Nat) : p.getD i 0 < N := by
  rw [Array.getD_eq_getD_getElem?]
  cases e : p[i]? with
  | none => exact h0
  | some x =>
    have hm : x ∈ p := Array.mem_of_getElem? e
    have := (Array.Perm.mem_iff h).mp hm
    simpa using this
theorem IsP.rev {N : Nat} {p : Array Nat} (h : IsP N p) (i j : Nat) : IsP N (kas_rev p i j) := (mirror_perm _ _ _ _).trans h
theorem IsP.bub {N : Nat} {p : Array Nat} (h : IsP N p) (i j : Nat) : IsP N (bubble p i j) := (bubble_perm _ _ _).trans h
theorem ok_asc {N : Nat} {p : Array Nat} (h : IsP N p) (h0 : 0 < N) : ∀ f n, okN N (fun _ => True) (kas_asc p f n)
  | 0, _ => trivial
  | f + 1, n => ⟨h.mem h0 _, h.mem h0 _, fun c => by
    cases c
    · exact ok_asc h h0 f (n + 1)
    · exact trivial⟩
theorem ok_desc {N : Nat} (h0 : 0 < N) : ∀ f p n q, IsP N p → okN N (fun r : Array Nat × Nat × Nat => IsP N r.1) (kas_desc f p n q)
  | 0, _, _, _, h => h
  | f + 1, p, n, q, h => ⟨h.mem h0 _, h.mem h0 _, fun c => by
    cases c
    · exact ⟨h.mem h0 _, h.mem h0 _, fun d => by
        cases d
        · exact ok_desc h0 f p (n + 1) (q + 1) h
        · exact h⟩
    · show okN N _ (if q > 0 then _ else _)
      split
      · exact ok_desc h0 f _ _ _ (h.rev _ _)
      · exact ok_desc h0 f _ _ _ h⟩
theorem ok_tail {N : Nat} (h0 : 0 < N) {p : Array Nat} (h : IsP N p) (n nrem : Nat) : okN N (fun r : Nat × Array Nat => IsP N r.2) (kas_tail3 n nrem p) :=
  okN_bind (ok_asc (h.rev _ _) h0 _ _) fun _ _ => h.rev _ _
theorem ok_part {N : Nat} (h0 : 0 < N) {p : Array Nat} (h : IsP N p) (n nrem : Nat) : okN N (fun r : Nat × Array Nat => IsP N r.2) (kas_descPart n nrem p) :=
  okN_bind (ok_desc h0 _ _ _ _ h) fun r hr => by
    split
    · exact ok_tail h0 (hr.rev _ _) _ _
    · exact ok_tail h0 hr _ _
theorem ok_count {N : Nat} (h0 : 0 < N) {p : Array Nat} (h : IsP N p) (nrem : Nat) : okN N (fun r : Nat × Array Nat => IsP N r.2) (kas_count nrem p) :=
  okN_bind (ok_asc h h0 _ _) fun n _ => by
    split
    · exact h
    · split
      · refine ⟨h.mem h0 _, h.mem h0 _, fun c => ?_⟩
        cases c
        · exact ok_part h0 (h.rev _ _) _ _
        · exact h
      · exact ok_part h0 h _ _
theorem ok_place {N : Nat} (h0 : 0 < N) {p : Array Nat} (h : IsP N p) (k : Nat) : ∀ f l r, okN N (fun _ => True) (kas_place p k f l r)
  | 0, _, _ => trivial
  | f + 1, l, r => by
    show okN N _ (if l ≥ r then _ else _)
    split
    · exact trivial
    · refine ⟨h.mem h0 _, h.mem h0 _, fun c => ?_⟩
      cases c
      · exact ok_place h0 h k f _ _
      · exact ok_place h0 h k f _ _
theorem ok_bin {N : Nat} (h0 : 0 < N) : ∀ f p k, IsP N p → okN N (fun r : Array Nat => IsP N r) (kas_bin f p k)
  | 0, _, _, h => h
  | f + 1, p, k, h => okN_bind (ok_place h0 h _ _ _ _) fun _ _ => ok_bin h0 f _ _ (h.bub _ _)
theorem ok_sort {N : Nat} (h0 : 0 < N) : okN N (fun r : Array Nat => IsP N r) (kas_sort N) :=
  okN_bind (ok_count h0 (Array.Perm.refl _) _) fun r hr => by
    split
    · exact ok_bin h0 _ _ _ hr
    · exact hr
noncomputable abbrev tup2 (x y : Int) (t u : Tok) : Obj := { cls := .type "tuple", data := .seq #[.int x t, .int y u] }
noncomputable def PairAt (nw : Led) (v : Value) (p : Int × Int) : Prop := ∃ a t u, v = .ref a ∧ (a, tup2 p.1 p.2 t u) ∈ nw
noncomputable def PairsAre (nw : Led) (vs : List Value) (ps : List (Int × Int)) : Prop := vs.length = ps.length ∧ ∀ (i : Nat) v, vs[i]? = some v → ∃ p, ps[i]? = some p ∧ PairAt nw v p
section
variable {prog : Program} {w : World} {A : Around} {E : Value → Shared → Prop} {s : Shared} {h₀ : Heap} {L l : Addr} {m : Str → Option Value} {news : Led}
theorem pair_lt {a b : Addr} {x y x' y' : Int} {t u t' u' : Tok} {C : Bool → Shared → Prop} (ha : s.heap.get? a = some (tup2 x y t u)) (hb : s.heap.get? b = some (tup2 x' y' t' u')) (hC : ∀ c tk, C c { s with toks := tk }) :
    wpAny (model prog w) A (keyLt' (tuples' true) (.ref a) (.ref b)) C (fun _ _ => False) s := by
  have hC' : ∀ c, C c s := fun c => hC c s.toks
  refine kat_lt ha rfl hb rfl ?_
  refine kat_cons (wpAny_eqBool_int (kat_go (fun _ => kat_yes ?_) (fun _ => kat_no ?_)))
  · refine kat_cons (wpAny_eqBool_int (kat_go (fun _ => kat_yes (kat_nil (hC' _))) (fun _ => kat_no ?_)))
    show wpAny _ _ (oneLt' false _ _) _ _ _
    exact kat_one _ _ (wpAny_lt_int (show C _ s from hC' _))
  · show wpAny _ _ (oneLt' true _ _) _ _ _
    exact oneLt_int (hC' _)
theorem firsts_tups {h : Heap} : ∀ {vs : List Value} {ps : List (Int × Int)}, News h₀ L h news → PairsAre news vs ps → ∃ fs, KatTups h vs fs ∧ fs.length = vs.length ∧ ∀ v ∈ fs, ∃ x t, v = .int x t
  | [], _, _, _ => ⟨[], trivial, rfl, fun _ h => nomatch h⟩
  | v :: vs, ps, N, hp => by
    walk_at "open"
    obtain ⟨p, h1, a, t, u, rfl, hm⟩ := hp.2 0 v rfl
    walk_at "shut"
    obtain ⟨q, qs, rfl⟩ : ∃ q qs, ps = q :: qs := by
      cases ps with
      | nil => exact nomatch h1
      | cons q qs => exact ⟨q, qs, rfl⟩
    have hp' : PairsAre news vs qs := ⟨by simpa using hp.1, fun i v hv => by
      walk_at "open"
      obtain ⟨p, h1, h2⟩ := hp.2 (i + 1) v (by simpa using hv)
      walk_at "shut"
      exact ⟨p, by simpa using h1, h2⟩⟩
    walk_at "open"
    obtain ⟨fs, k1, k2, k3⟩ := firsts_tups N hp'
    walk_at "shut"
    refine ⟨.int p.1 t :: fs, KatTups.cons (N _ hm).1 rfl rfl rfl k1, by simp [k2], fun v hv => ?_⟩
    rcases List.mem_cons.mp hv with rfl | hv
    · exact ⟨_, _, rfl⟩
    · exact k3 v hv
theorem getD_map {α : Type} (l : List α) (d : α) : (List.range l.length).map (fun i => l.getD i d) = l := by
  refine List.ext_getElem? fun i => ?_
  rw [List.getElem?_map]
  by_cases h : i < l.length
  · rw [List.getElem?_range h]; simp [h]
  · rw [List.getElem?_eq_none (by simpa using h), List.getElem?_eq_none (by lia)]; rfl
theorem sorted_pairs {tu : Led} {vs : List Value} {ps : List (Int × Int)} {n : Nat} {Q : Value → Shared → Prop} (F : Fr h₀ L s.heap m) (N : News h₀ L s.heap news) (hl : (l, W.listOf vs.toArray n) ∈ news) (ht : ∀ p ∈ tu, p ∈ news) (hp : PairsAre tu vs ps) (h2 : 2 ≤ vs.length) (h64 : vs.length < 64)
    (h : ∀ D vs' ps' c h' tk, Fr h₀ L h' m → News h₀ L h' ((D, W.listOf vs'.toArray c) :: news) → (∀ q ∈ news, q.1 < D) → PairsAre tu vs' ps' → ps'.Perm ps → Q (.ref D) { s with heap := h', toks := tk }) :
    wpAny (model prog w) A (call (.builtin "sorted") [.ref l]) Q E s := by
  refine kat_sorted F N ⟨_, (N _ hl).1, rfl, n, rfl⟩ h2 h64 fun D e1 h' F' N' lo => ?_
  have N1 : News h₀ L h' news := news_sub N' fun p hp => List.mem_cons_of_mem _ hp
  walk_at "open"
  obtain ⟨fs, k1, k2, k3⟩ := firsts_tups (news_sub N1 ht) hp
  walk_at "shut"
  refine kat_kind (T := .type "int") (s := { s with heap := h' }) k1 (by lia) (fun v hv => ?_) (by decide) ?_
  · walk_at "open"
    obtain ⟨x, t, rfl⟩ := k3 v hv
    walk_at "shut"
    exact Looks.now
  refine okN_wp (N := vs.length) (Inv := fun s' => ∃ tk, s' = { s with heap := h', toks := tk }) (fun i j C s' hi hj hs hC => ?_) (fun p s' hP hs => ?_) (ok_sort (by lia)) ⟨s.toks, rfl⟩
  · obtain ⟨tk, rfl⟩ := hs
    unfold kas_ask
    walk_at "open"
    obtain ⟨p, _, a, t, u, e, hm⟩ := hp.2 i _ (List.getElem?_eq_getElem hi)
    obtain ⟨q, _, b, t', u', e', hm'⟩ := hp.2 j _ (List.getElem?_eq_getElem hj)
    walk_at "shut"
    rw [show vs.getD i Value.none = .ref a by simp [hi, e], show vs.getD j Value.none = .ref b by simp [hj, e']]
    exact pair_lt (s := { s with heap := h', toks := tk }) (N1 _ (ht _ hm)).1 (N1 _ (ht _ hm')).1 fun c tk' => hC c _ ⟨tk', rfl⟩
  · obtain ⟨tk, rfl⟩ := hs
    refine KasFin.intro (s := { s with heap := h', toks := tk }) F' N' (UpdF.head (fun q hq => Nat.ne_of_lt (lo q hq))) fun h'' c F'' N'' => ?_
    have hpl : p.toList.Perm (List.range vs.length) := by
      have := Array.perm_iff_toList_perm.mp hP
      simpa using this
    refine h D (p.toList.map fun i => vs.getD i Value.none) (p.toList.map fun i => ps.getD i (0, 0)) c h'' tk F'' N'' lo ⟨by simp, fun i v hv => ?_⟩ ?_
    · rw [List.getElem?_map] at hv ⊢
      cases e : p.toList[i]? with
      | none => rw [e] at hv; exact nomatch hv
      | some k =>
        rw [e] at hv
        have hk : k < vs.length := by simpa using hpl.mem_iff.mp (List.mem_of_getElem? e)
        have hv' : vs[k] = v := by simpa [hk] using hv
        walk_at "open"
        obtain ⟨q, hq, hat⟩ := hp.2 k v (by rw [← hv']; exact List.getElem?_eq_getElem hk)
        walk_at "shut"
        refine ⟨q, ?_, hat⟩
        simp [List.getD, hq]
    · have := hpl.map (fun i => ps.getD i (0, 0))
      rw [hp.1, getD_map] at this
      exact this
end
end Mine

end
section
open PySem PySem.W PySem.W.X PyProof.Rows PySem.Calls PySem.Spec PyProof.V
namespace Mine
section
variable {prog : Program} {w : World} {A : Around} {E : Value → Shared → Prop} {s : Shared}
noncomputable def comp2 (elt : Expr) (x1 : Str) (p1 : Pos) (iter1 : Expr) (x2 : Str) (p2 : Pos) (iter2 : Expr) (ifs : List Expr) (scope : Scope) (pos : Pos) : Expr :=
  .ListComp elt [⟨.Name x1 p1, iter1, [], 0⟩, ⟨.Name x2 p2, iter2, ifs, 0⟩] scope pos
variable {elt iter1 iter2 : Expr} {x1 x2 : Str} {p1 p2 pos : Pos} {ifs : List Expr} {scope : Scope} {it acc : Value} {env : Env}
theorem turn_in : compTurn (comp2 elt x1 p1 iter1 x2 p2 iter2 ifs scope pos) 1 it acc env = (do
      standAt iter2.pos
      match ← pyNext it with
      | none => pure (.done .next)
      | some v =>
        letOwnedTupleGo (.Name x2 p2) it v
        assign (.Name x2 p2) env v
        let mut ok := true
        for c in ifs do
          if ok then ok ← isTrue c env (eval c env)
        if ok then
          (do let _ ← call (.builtin "list.append") [acc, ← eval elt env])
        again (.compLoop (comp2 elt x1 p1 iter1 x2 p2 iter2 ifs scope pos) 1 it acc env)) := by rfl
theorem turn_out : compTurn (comp2 elt x1 p1 iter1 x2 p2 iter2 ifs scope pos) 0 it acc env = (do
      standAt iter1.pos
      match ← pyNext it with
      | none => pure (.done .next)
      | some v =>
        letOwnedTupleGo (.Name x1 p1) it v
        assign (.Name x1 p1) env v
        let x ← eval iter2 env
        standAt iter2.pos
        let x ← foldedSetIterable iter2 env x
        let _ ← runOwn (.compStart (comp2 elt x1 p1 iter1 x2 p2 iter2 ifs scope pos) 1 (← holding [x] (pyIter x)) acc env) env
        again (.compLoop (comp2 elt x1 p1 iter1 x2 p2 iter2 ifs scope pos) 0 it acc env)) := by rfl
theorem code_in {R : Result → Shared → Prop} (I : Nat → Shared → Prop)
    (turn : ∀ n s, I n s → wpAny (model prog w) A (pyNext it) (fun r s₁ => match r with
      | none => R (.ok .next) s₁
      | some v => wpAny (model prog w) A (assign (.Name x2 p2) env v) (fun _ s₂ =>
          wpAny (model prog w) A (forIn ifs true fun c r => if r = true then do let ok ← isTrue c env (eval c env); pure (ForInStep.yield ok) else pure (ForInStep.yield r)) (fun ok s₃ =>
            if ok = true then wpAny (model prog w) A (eval elt env) (fun x s₄ =>
              wpAny (model prog w) A (call (.builtin "list.append") [acc, x]) (fun _ s₅ => ∃ m, m < n ∧ I m s₅) (notedBy (model prog w) A env fun e s' => R (.error e) s') s₄) (notedBy (model prog w) A env fun e s' => R (.error e) s') s₃
            else ∃ m, m < n ∧ I m s₃) (notedBy (model prog w) A env fun e s' => R (.error e) s') s₂) (notedBy (model prog w) A env fun e s' => R (.error e) s') s₁) (notedBy (model prog w) A env fun e s' => R (.error e) s') s)
    (n : Nat) (h : I n s) : codeAny (model prog w) A (.compLoop (comp2 elt x1 p1 iter1 x2 p2 iter2 ifs scope pos) 1 it acc env) R s := by
  refine codeAny_loop rfl I (fun n s hI => ?_) n h
  show wpAny _ A ((compTurn (comp2 elt x1 p1 iter1 x2 p2 iter2 ifs scope pos) 1 it acc env).onRaise (fun x => do noteFrame x env; theTreesLotGoes x)) _ _ s
  refine wpAny_noted ?_
  rw [turn_in]
  refine wpAny_bind (wpAny_standAt (wpAny_bind (wpAny_mono (turn n s hI) (fun r s₁ h₁ => ?_) fun _ _ h' => h')))
  cases r with
  | none => exact wpAny_pure h₁
  | some v =>
    refine wpAny_bind (wpAny_of_eq (a := ()) rfl ?_)
    refine wpAny_bind (wpAny_mono h₁ (fun _ s₂ h₂ => wpAny_bind (wpAny_mono h₂ (fun ok s₃ h₃ => ?_) fun _ _ h' => h')) fun _ _ h' => h')
    cases ok with
    | false => exact wpAny_pure ⟨rfl, h₃⟩
    | true =>
      exact wpAny_bind (wpAny_bind (wpAny_mono h₃ (fun x s₄ h₄ => wpAny_bind (wpAny_mono h₄ (fun _ s₅ h₅ => wpAny_pure (wpAny_pure ⟨rfl, h₅⟩)) fun _ _ h' => h')) fun _ _ h' => h'))
theorem code_out {R : Result → Shared → Prop} (I : Nat → Shared → Prop)
    (turn : ∀ n s, I n s → wpAny (model prog w) A (pyNext it) (fun r s₁ => match r with
      | none => R (.ok .next) s₁
      | some v => wpAny (model prog w) A (assign (.Name x1 p1) env v) (fun _ s₂ =>
          wpAny (model prog w) A (eval iter2 env) (fun x s₃ => wpAny (model prog w) A (pyIter x) (fun it2 s₄ =>
            codeAny (model prog w) A (.compStart (comp2 elt x1 p1 iter1 x2 p2 iter2 ifs scope pos) 1 it2 acc env) (fun r s' => match r with | .ok _ => ∃ m, m < n ∧ I m s' | .error e => cameBackBy (model prog w) A env (notedBy (model prog w) A env fun e s' => R (.error e) s') e s') s₄)
            (notedBy (model prog w) A env fun e s' => R (.error e) s') s₃) (notedBy (model prog w) A env fun e s' => R (.error e) s') s₂) (notedBy (model prog w) A env fun e s' => R (.error e) s') s₁) (notedBy (model prog w) A env fun e s' => R (.error e) s') s)
    (n : Nat) (h : I n s) (hs : ∀ x, foldedSetIterable iter2 env x = pure x) : codeAny (model prog w) A (.compLoop (comp2 elt x1 p1 iter1 x2 p2 iter2 ifs scope pos) 0 it acc env) R s := by
  refine codeAny_loop rfl I (fun n s hI => ?_) n h
  show wpAny _ A ((compTurn (comp2 elt x1 p1 iter1 x2 p2 iter2 ifs scope pos) 0 it acc env).onRaise (fun x => do noteFrame x env; theTreesLotGoes x)) _ _ s
  refine wpAny_noted ?_
  rw [turn_out]
  refine wpAny_bind (wpAny_standAt (wpAny_bind (wpAny_mono (turn n s hI) (fun r s₁ h₁ => ?_) fun _ _ h' => h')))
  cases r with
  | none => exact wpAny_pure h₁
  | some v =>
    refine wpAny_bind (wpAny_of_eq (a := ()) rfl ?_)
    refine wpAny_bind (wpAny_mono h₁ (fun _ s₂ h₂ => wpAny_bind (wpAny_mono h₂ (fun x s₃ h₃ => ?_) fun _ _ h' => h')) fun _ _ h' => h')
    refine wpAny_bind (wpAny_standAt (wpAny_bind (wpAny_of_eq (hs x) (wpAny_bind (wpAny_holding (wpAny_mono h₃ (fun it2 s₄ h₄ => ?_) fun _ _ h' => h'))))))
    refine wpAny_bind (wpAny_runOwn (h := none) (codeAny_mono h₄ fun r s' hr => ?_))
    cases r with
    | ok f => exact wpAny_pure ⟨rfl, hr⟩
    | error e => exact hr
theorem start_in {R : Result → Shared → Prop} (h0 : codeAny (model prog w) A (.compLoop (comp2 elt x1 p1 iter1 x2 p2 iter2 ifs scope pos) 1 it acc env) R s)
    (h : wpAny (model prog w) A (pyIter it) (fun it' s' => codeAny (model prog w) A (.compLoop (comp2 elt x1 p1 iter1 x2 p2 iter2 ifs scope pos) 1 it' acc env) R s')
      (notedBy (model prog w) A env fun x s' => R (.error x) s') s) :
    codeAny (model prog w) A (.compStart (comp2 elt x1 p1 iter1 x2 p2 iter2 ifs scope pos) 1 it acc env) R s := by
  refine codeAny_of_tree ?_
  show wpAny _ _ ((compStart (comp2 elt x1 p1 iter1 x2 p2 iter2 ifs scope pos) 1 it acc env).onRaise (fun x => do noteFrame x env; standAt theWindowsPlace)) _ _ s
  refine wpAny_notedAt ?_
  unfold compStart
  show wpAny _ _ (ask >>= _) _ _ s
  refine wpAny_bind (wpAny_askSetting (wpAny_ite ?_))
  split
  · first
      | exact wpAny_bind (wpAny_pure (wpAny_pure (And.intro rfl h0)))
      | exact wpAny_pure (And.intro rfl h0)
  · refine wpAny_bind (wpAny_rule ?_)
    show wpAny _ _ (standAt iter2.pos >>= _) _ _ s
    exact wpAny_bind (wpAny_standAt (wpAny_bind (wpAny_mono h (fun it' s' h' => wpAny_pure (And.intro rfl h')) fun _ _ x => x)))
end
noncomputable def OffA (I2 I C D : Addr) (l : Led) : Prop := ∀ p ∈ l, p.1 ≠ I2 ∧ p.1 ≠ I ∧ p.1 ≠ C ∧ p.1 ≠ D
inductive End2 (h₀ : Heap) (L : Addr) (m : Str → Option Value) (s₁ : Shared) (I2 : Addr) (oI2 : Obj) (I : Addr) (oI : Obj) (C : Addr) (oC : Obj) (D : Addr) (oD : Obj) (S : Led → Prop) (rest : Value → Led → Prop) (y : Value) (s₂ : Shared) : Prop
  | mk (h' : Heap) (tk : Nat) (news' : Led) (e : s₂ = { s₁ with heap := h', toks := tk }) (F : Fr h₀ L h' m) (N : News h₀ L h' ((I2, oI2) :: (I, oI) :: (C, oC) :: (D, oD) :: news')) (of : OffA I2 I C D news') (hS : S news') (hr : rest y news') : End2 h₀ L m s₁ I2 oI2 I oI C oC D oD S rest y s₂
theorem End2.intro {h₀ : Heap} {L I2 I C D : Addr} {m : Str → Option Value} {s₁ : Shared} {oI2 oI oC oD : Obj} {S : Led → Prop} {rest : Value → Led → Prop} {y : Value} {h' : Heap} {tk : Nat} {all : Led}
    (F : Fr h₀ L h' m) (N : News h₀ L h' all) (news' : Led) (sub : ∀ p ∈ (I2, oI2) :: (I, oI) :: (C, oC) :: (D, oD) :: news', p ∈ all) (off : OffA I2 I C D news') (hS : S news') (r : rest y news') :
    End2 h₀ L m s₁ I2 oI2 I oI C oC D oD S rest y { s₁ with heap := h', toks := tk } := ⟨h', tk, news', rfl, F, fun p hp => N p (sub p hp), off, hS, r⟩
inductive Open2 (h₀ : Heap) (L : Addr) (m : Str → Option Value) (s₁ : Shared) (I : Addr) (oI : Obj) (C : Addr) (oC : Obj) (D : Addr) (oD : Obj) (S : Led → Prop) (a : Int) (n2 : Nat) (rest : Led → Prop) (xv : Value) (s₂ : Shared) : Prop
  | mk (r : Addr) (b : Int) (t u v : Tok) (h' : Heap) (tk : Nat) (news' : Led) (e : xv = .ref r) (e' : s₂ = { s₁ with heap := h', toks := tk }) (hr : IsRange h' r a b 1 t u v) (hs : Builtin.Range.small a b 1 = true) (hn : Builtin.Range.rangeSize a b 1 = ((n2 : Nat) : Int))
    (F : Fr h₀ L h' m) (N : News h₀ L h' ((I, oI) :: (C, oC) :: (D, oD) :: news')) (of : LCg.Off3 I C D news') (hS : S news') (rs : rest news') : Open2 h₀ L m s₁ I oI C oC D oD S a n2 rest xv s₂
theorem Open2.intro {h₀ : Heap} {L I C D r : Addr} {m : Str → Option Value} {s₁ : Shared} {oI oC oD : Obj} {S : Led → Prop} {a b : Int} {t u v : Tok} {n2 : Nat} {rest : Led → Prop} {h' : Heap} {tk : Nat} {all : Led}
    (hr : IsRange h' r a b 1 t u v) (hsm : Builtin.Range.small a b 1 = true) (hn : Builtin.Range.rangeSize a b 1 = ((n2 : Nat) : Int)) (F : Fr h₀ L h' m) (N : News h₀ L h' all) (news' : Led) (sub : ∀ p ∈ (I, oI) :: (C, oC) :: (D, oD) :: news', p ∈ all) (off : LCg.Off3 I C D news') (hS : S news') (rs : rest news') :
    Open2 h₀ L m s₁ I oI C oC D oD S a n2 rest (.ref r) { s₁ with heap := h', toks := tk } := ⟨r, b, t, u, v, h', tk, news', rfl, rfl, hr, hsm, hn, F, fun p hp => N p (sub p hp), off, hS, rs⟩
section
variable {prog : Program} {w : World} {A : Around} {E : Value → Shared → Prop} {s₂ : Shared} {h₀ : Heap} {L : Addr} {m : Str → Option Value} {env : Env}
variable {elt iter1 iter2 : Expr} {x1 x2 : Str} {p1 p2 pos : Pos} {ifs : List Expr} {scope : Scope} {cl : List (Str × Addr)}
inductive B2o (s₂ : Shared) (h₀ : Heap) (L : Addr) (m : Str → Option Value) (I C D : Addr) (n n2 : Nat) (St : Nat → Heap → Prop) (S : Led → Prop) (J1 : Nat → List Value → Led → Prop) (k : Nat) (s' : Shared) : Prop
  | mk (h' : Heap) (tk i : Nat) (ys : List Value) (m' : Str → Option Value) (news' : Led) (e : s' = { s₂ with heap := h', toks := tk }) (hi : i ≤ n) (hk : k = n + 1 - i) (hy : ys.length ≤ i * n2) (st : St i h') (F : Fr h₀ L h' m) (ns : h'.Ns C m') (N : News h₀ L h' ((D, LCg.lst ys) :: news'))
    (of : LCg.Off3 I C D news') (hS : S news') (hJ : J1 i ys news') : B2o s₂ h₀ L m I C D n n2 St S J1 k s'
inductive B2i (s₂ : Shared) (h₀ : Heap) (L : Addr) (m : Str → Option Value) (x1 : Str) (I2 I C D : Addr) (a : Int) (i n2 : Nat) (v : Value) (St : Nat → Heap → Prop) (S : Led → Prop) (J2 : Nat → Nat → List Value → Led → Prop) (k : Nat) (s' : Shared) : Prop
  | mk (h' : Heap) (tk j : Nat) (ys : List Value) (m' : Str → Option Value) (oI : Obj) (nw : Led) (e : s' = { s₂ with heap := h', toks := tk }) (hj : j ≤ n2) (hk : k = n2 + 1 - j) (hy : ys.length ≤ i * n2 + j) (it : IsRangeIter h' I2 (a + (j : Nat) * 1) ((n2 : Int) - (j : Nat)) 1) (hI : h'.get? I = some oI) (st : St (i + 1) h') (F : Fr h₀ L h' m) (ns : h'.Ns C m') (hx : m' x1 = some v)
    (N : News h₀ L h' ((D, LCg.lst ys) :: nw)) (of : OffA I2 I C D nw) (hS : S nw) (hJ : J2 i j ys nw) : B2i s₂ h₀ L m x1 I2 I C D a i n2 v St S J2 k s'
noncomputable def Rest2 (prog : Program) (w : World) (A : Around) (h₀ : Heap) (L : Addr) (m : Str → Option Value) (env : Env) (elt : Expr) (x1 x2 : Str) (iter2 : Expr) (ifs : List Expr) (scope : Scope) (cl : List (Str × Addr)) (s₂ : Shared) (S : Led → Prop) (P : Nat → Value → Prop) (n : Nat) (news : Led) (Fin : List Value → Led → Prop) (J1 : Nat → List Value → Led → Prop) (J2 : Nat → Nat → List Value → Led → Prop) (n2 : Nat) (a : Int) : Prop :=
    (∀ I i v ys news oI C oC D m₂ h tk (E' : Value → Shared → Prop), i < n → P i v → J1 i ys news → LCg.NsObj oC m₂ → m₂ x1 = some v → Fr h₀ L h m → News h₀ L h ((I, oI) :: (C, oC) :: (D, LCg.lst ys) :: news) → LCg.Off3 I C D news → ((@Ne Nat I C) ∧ (@Ne Nat I D) ∧ (@Ne Nat C D)) →
      wpAny (model prog w) A (eval iter2 (compEnvC scope cl C env)) (Open2 h₀ L m { s₂ with heap := h, toks := tk } I oI C oC D (LCg.lst ys) S a n2 (fun nw => J2 i 0 ys nw)) E' { s₂ with heap := h, toks := tk }) ∧
    (∀ I i j v t ys news I2 oI2 oI C oC D m₂ h tk (E' : Value → Shared → Prop), i < n → j < n2 → P i v → J2 i j ys news → LCg.NsObj oC m₂ → m₂ x1 = some v → m₂ x2 = some (.int (a + (j : Int)) t) → Fr h₀ L h m → News h₀ L h ((I2, oI2) :: (I, oI) :: (C, oC) :: (D, LCg.lst ys) :: news) → OffA I2 I C D news →
      wpAny (model prog w) A (forIn ifs true fun c r => if r = true then do let ok ← isTrue c (compEnvC scope cl C env) (eval c (compEnvC scope cl C env)); pure (ForInStep.yield ok) else pure (ForInStep.yield r)) (fun ok s' => if ok = true then
        wpAny (model prog w) A (eval elt (compEnvC scope cl C env)) (End2 h₀ L m { s₂ with heap := h, toks := tk } I2 oI2 I oI C oC D (LCg.lst ys) S (fun y nw => J2 i (j + 1) (ys ++ [y]) nw)) E' s'
        else End2 h₀ L m { s₂ with heap := h, toks := tk } I2 oI2 I oI C oC D (LCg.lst ys) S (fun _ nw => J2 i (j + 1) ys nw) Value.none s') E' { s₂ with heap := h, toks := tk }) ∧
    (∀ i ys nw, i < n → J2 i n2 ys nw → J1 (i + 1) ys nw) ∧ (∀ ys nw, J1 n ys nw → Fin ys nw)
theorem rest2 {prog : Program} {w : World} {A : Around} {h₀ : Heap} {L : Addr} {m : Str → Option Value} {env : Env} {elt : Expr} {x1 x2 : Str} {iter2 : Expr} {ifs : List Expr} {scope : Scope} {cl : List (Str × Addr)} {s₂ : Shared} {S : Led → Prop} {P : Nat → Value → Prop} {n : Nat} {news : Led} {Fin : List Value → Led → Prop} {J1 : Nat → List Value → Led → Prop} {J2 : Nat → Nat → List Value → Led → Prop} {n2 : Nat} {a : Int} (h1 : ∀ I i v ys news oI C oC D m₂ h tk (E' : Value → Shared → Prop), i < n → P i v → J1 i ys news → LCg.NsObj oC m₂ → m₂ x1 = some v → Fr h₀ L h m → News h₀ L h ((I, oI) :: (C, oC) :: (D, LCg.lst ys) :: news) → LCg.Off3 I C D news → ((@Ne Nat I C) ∧ (@Ne Nat I D) ∧ (@Ne Nat C D)) →
      wpAny (model prog w) A (eval iter2 (compEnvC scope cl C env)) (Open2 h₀ L m { s₂ with heap := h, toks := tk } I oI C oC D (LCg.lst ys) S a n2 (fun nw => J2 i 0 ys nw)) E' { s₂ with heap := h, toks := tk }) (h2 : ∀ I i j v t ys news I2 oI2 oI C oC D m₂ h tk (E' : Value → Shared → Prop), i < n → j < n2 → P i v → J2 i j ys news → LCg.NsObj oC m₂ → m₂ x1 = some v → m₂ x2 = some (.int (a + (j : Int)) t) → Fr h₀ L h m → News h₀ L h ((I2, oI2) :: (I, oI) :: (C, oC) :: (D, LCg.lst ys) :: news) → OffA I2 I C D news →
      wpAny (model prog w) A (forIn ifs true fun c r => if r = true then do let ok ← isTrue c (compEnvC scope cl C env) (eval c (compEnvC scope cl C env)); pure (ForInStep.yield ok) else pure (ForInStep.yield r)) (fun ok s' => if ok = true then
        wpAny (model prog w) A (eval elt (compEnvC scope cl C env)) (End2 h₀ L m { s₂ with heap := h, toks := tk } I2 oI2 I oI C oC D (LCg.lst ys) S (fun y nw => J2 i (j + 1) (ys ++ [y]) nw)) E' s'
        else End2 h₀ L m { s₂ with heap := h, toks := tk } I2 oI2 I oI C oC D (LCg.lst ys) S (fun _ nw => J2 i (j + 1) ys nw) Value.none s') E' { s₂ with heap := h, toks := tk }) (h3 : ∀ i ys nw, i < n → J2 i n2 ys nw → J1 (i + 1) ys nw) (h4 : ∀ ys nw, J1 n ys nw → Fin ys nw) :
    Rest2 prog w A h₀ L m env elt x1 x2 iter2 ifs scope cl s₂ S P n news Fin J1 J2 n2 a := ⟨h1, h2, h3, h4⟩
theorem block2 {I : Addr} {fp : List Addr} {n n2 : Nat} {a : Int} {P : Nat → Value → Prop} {St : Nat → Heap → Prop} {S : Led → Prop} {news : Led} {Fin : List Value → Led → Prop} {RR : Value → Addr → Result → Shared → Prop}
    (J1 : Nat → List Value → Led → Prop) (J2 : Nat → Nat → List Value → Led → Prop)
    (W : Walks prog w A I fp [I] n P St) (hsz : n * n2 ≤ 1000000) (hIo : ∀ i h, St i h → ∃ o, h.get? I = some o)
    (hSt : ∀ i h h' o nw, St i h → h.get? I = some o → h'.get? I = some o → (∀ b o, h₀.get? b = some o → h'.get? b = some o) → News h₀ L h' nw → S nw → St i h')
    (hh : A.handled = none) (hs' : ∀ C x, foldedSetIterable iter2 (compEnvC scope cl C env) x = pure x)
    (hcell : ∀ y ∈ scope.names, y.2 ≠ .cell) (hkind : scope.kind = .function) (hx1 : scope.names.lookup x1 = some .local) (hx2 : scope.names.lookup x2 = some .local) (h12 : x1 ≠ x2) (hst : St 0 s₂.heap) (hfp : ∀ b ∈ fp, b < s₂.heap.objs.size)
    (F : Fr h₀ L s₂.heap m) (N : News h₀ L s₂.heap news) (hIL : L ≠ I) (hI₀ : h₀.get? I = none) (off : ∀ p ∈ news, p.1 ≠ I) (hS : S news)
    (h0 : J1 0 [] news)
    (hR : Rest2 prog w A h₀ L m env elt x1 x2 iter2 ifs scope cl s₂ S P n news Fin J1 J2 n2 a)
    (hRR : ∀ D C h tk m' ys news', Fr h₀ L h m → News h₀ L h ((D, LCg.lst ys) :: news') → LCg.Off1 D news' → h.Ns C m' → h₀.get? C = none → h₀.get? D = none → C ≠ L → D ≠ L → C ≠ D → (∀ p ∈ news', p.1 ≠ C) → Fin ys news' → RR (.ref D) C (.ok .next) { s₂ with heap := h, toks := tk }) :
    wpAny (model prog w) A (newList []) (fun acc s₃ => wpAny (model prog w) A (newFunctionEnv scope env.globals cl [] env.qual none .none (some env)) (fun cenv s₄ =>
      codeAny (model prog w) A (.compStart (comp2 elt x1 p1 iter1 x2 p2 iter2 ifs scope pos) 0 (.ref I) acc { cenv with scope := relabel scope env }) (RR acc cenv.locals) s₄) E s₃) E s₂ := by
  have opn := hR.1 I
  have step := hR.2.1 I
  have cls := hR.2.2.1
  have fin := hR.2.2.2
  refine wpAny_newObj_type (wpAny_newFunctionEnv hcell (by intro y hy; simp at hy) (fun h₁ hns₁ hsb₁ => ?_) hkind)
  dsimp only at hns₁ hsb₁ ⊢
  revert hns₁ hsb₁
  refine genE_ (s₂.heap.push { cls := .type "list", dict := none, data := .seq ([] : List Value).toArray }) ?_
  intro H2 hH2 hns₁ hsb₁
  have hC : H2.objs.size = s₂.heap.objs.size + 1 := by rw [← hH2, Heap.size_push]
  have hDC : s₂.heap.objs.size ≠ H2.objs.size := by rw [hC]; exact Nat.ne_of_lt (Nat.lt_succ_self _)
  have below : ∀ b, b < s₂.heap.objs.size → b ≠ H2.objs.size ∧ b ≠ s₂.heap.objs.size := fun b hb => ⟨by rw [hC]; exact Nat.ne_of_lt (Nat.lt_succ_of_lt hb), Nat.ne_of_lt hb⟩
  have hDf : s₂.heap.objs.size ∉ fp := fun hm => Nat.lt_irrefl _ (hfp _ hm)
  have hCf : H2.objs.size ∉ fp := fun hm => by have := hfp _ hm; rw [hC] at this; exact Nat.lt_irrefl _ (Nat.lt_of_succ_lt this)
  have hIf : I ∈ fp := W.sub I (List.mem_singleton.mpr rfl)
  have hIlt : I < s₂.heap.objs.size := hfp I hIf
  have old : ∀ b o, s₂.heap.get? b = some o → h₁.get? b = some o := fun b o e => hsb₁.extBut b o (below b (Heap.lt_size e)).1 (Heap.get?_push_of_some _ (hH2 ▸ Heap.get?_push_of_some _ e))
  have hacc : h₁.get? s₂.heap.objs.size = some (LCg.lst []) := hsb₁.extBut _ _ hDC (Heap.get?_push_of_some _ (hH2 ▸ Heap.get?_push_size _ rfl))
  have hst₁ : St 0 h₁ := W.frame _ _ _ hst fun b _ o e => old b o e
  have fresh : ∀ a, s₂.heap.objs.size ≤ a → s₂.heap.get? a = none := fun a ha => by
    cases e : s₂.heap.get? a with
    | none => rfl
    | some o' => exact absurd (Heap.lt_size e) (Nat.not_lt.mpr ha)
  have fresh₀ : ∀ a, s₂.heap.objs.size ≤ a → h₀.get? a = none := fun a ha => by
    cases e : h₀.get? a with
    | none => rfl
    | some o' => have := F.keep a o' e; rw [fresh a ha] at this; cases this
  have hD₀ : h₀.get? s₂.heap.objs.size = none := fresh₀ _ (Nat.le_refl _)
  have hC₀ : h₀.get? H2.objs.size = none := fresh₀ _ (by rw [hC]; exact Nat.le_succ _)
  have hLlt : L < s₂.heap.objs.size := F.ns.lt
  have hDL : s₂.heap.objs.size ≠ L := Ne.symm (below L hLlt).2
  have hCL : H2.objs.size ≠ L := Ne.symm (below L hLlt).1
  have hCI : I ≠ H2.objs.size := (below I hIlt).1
  have hDI : I ≠ s₂.heap.objs.size := (below I hIlt).2
  have off₀ : LCg.Off3 I H2.objs.size s₂.heap.objs.size news := LCg.Off3.of fun p hp => ⟨off p hp, (below _ (Heap.lt_size (N p hp).1)).1, (below _ (Heap.lt_size (N p hp).1)).2⟩
  revert hns₁ hsb₁ hC hDC below hDf hCf hacc hD₀ hC₀ hDL hCL hCI hDI off₀ hIlt hLlt
  refine gen_ H2.objs.size ?_
  intro C
  refine gen_ s₂.heap.objs.size ?_
  intro D hns₁ hsb₁ hC hDC below hDf hCf hIlt hacc hD₀ hC₀ hLlt hDL hCL hCI hDI off₀
  have loop : ∀ s₃ : Shared, s₃ = { s₂ with heap := h₁, toks := s₂.toks + ([] : List (Str × Value)).length } →
      codeAny (model prog w) A (.compLoop (comp2 elt x1 p1 iter1 x2 p2 iter2 ifs scope pos) 0 (.ref I) (.ref D) (compEnvC scope cl C env)) (RR (.ref D) C) s₃ := by
    rintro s₃ rfl
    refine code_out
      (B2o s₂ h₀ L m I C D n n2 St S J1) ?_ (n + 1)
      ⟨h₁, _, 0, [], _, news, rfl, Nat.zero_le _, rfl, Nat.zero_le _, hst₁, F.keeps old, hns₁, fun p hp => ?_, off₀, hS, h0⟩ (hs' C)
    · rintro k s' rq1
      walk_at "open"
      obtain ⟨h', tk, i, ys, m', news', rfl, hi, rfl, hyl, hst', F', hn', N', off', hS', hJ⟩ := rq1
      walk_at "shut"
      by_cases hlt : i < n
      · refine W.item i _ _ _ hlt hst' fun v h₂ tk₂ hPv hst₂ hk₂ => ?_
        refine wpAny_assign_Name (wpAny_storeName_local (lookup_relabel_local hx1) (hn'.at' fun o e => hk₂ _ o (by simpa using Ne.symm hCI) e) (fun h₃ hn₃ hs₃ => ?_) (by simp [compEnvC, relabel, hkind]))
        have hst₃ : St (i + 1) h₃ := W.frame _ _ _ hst₂ fun b hb o e => hs₃.extBut b o (fun q => hCf (by have q' : b = C := q; rw [← q']; exact hb)) e
        walk_at "open"
        obtain ⟨oI, heI⟩ := hIo _ _ hst₃
        obtain ⟨oC, heC, hoC⟩ := LCg.ns_obj hn₃
        walk_at "shut"
        have F₃ : Fr h₀ L h₃ m := (LCg.fr_but F' hk₂ hIL hI₀).change hs₃ hCL hC₀
        have off3 := off'.mem
        have N₂ : News h₀ L h₂ ((D, LCg.lst ys) :: news') := LCg.news_but N' hk₂ fun p hp => by
          rcases List.mem_cons.mp hp with rfl | hp
          · exact Ne.symm hDI
          · exact (off3 p hp).1
        have N₃ : News h₀ L h₃ ((I, oI) :: (C, oC) :: (D, LCg.lst ys) :: news') := fun p hp => by
          rcases List.mem_cons.mp hp with rfl | hp
          · exact ⟨heI, Ne.symm hIL, hI₀⟩
          · rcases List.mem_cons.mp hp with rfl | hp
            · exact ⟨heC, hCL, hC₀⟩
            · have z := N₂ p hp
              refine ⟨hs₃.extBut _ _ ?_ z.1, z.2⟩
              rcases List.mem_cons.mp hp with rfl | hp
              · exact hDC
              · exact (off3 p hp).2.1
        refine wpAny_mono (opn i v ys news' oI C oC D _ h₃ _ _ hlt hPv hJ hoC (by simp) F₃ N₃ off' ⟨hCI, hDI, Ne.symm hDC⟩) (fun xv s₄ h₄ => ?_) fun _ _ e => e
        walk_at "open"
        obtain ⟨r, b, t, u, v', h₄, tk₄, nw, rfl, rfl, hr, hsm, hrn, F₄, N₄, off₄, hS₄, hJ₄⟩ := h₄
        walk_at "shut"
        refine wpAny_pyIter_range hr hsm ?_
        have W2 := LCg.range_walks (prog := prog) (w := w) (I := h₄.objs.size) hh a n2
        have z : ∀ p ∈ (I, oI) :: (C, oC) :: (D, LCg.lst ys) :: nw, p.1 ≠ h₄.objs.size := fun p hp => Nat.ne_of_lt (Heap.lt_size (N₄ p hp).1)
        have hI2I : I ≠ h₄.objs.size := z (I, oI) (List.mem_cons_self ..)
        have hI2C : C ≠ h₄.objs.size := z (C, oC) (List.mem_cons_of_mem _ (List.mem_cons_self ..))
        have hI2D : D ≠ h₄.objs.size := z (D, LCg.lst ys) (List.mem_cons_of_mem _ (List.mem_cons_of_mem _ (List.mem_cons_self ..)))
        have hI2L : L ≠ h₄.objs.size := Nat.ne_of_lt F₄.ns.lt
        have hI20 : h₀.get? h₄.objs.size = none := next_is_new F₄
        have hIr : IsRangeIter (h₄.push { cls := .type "range_iterator", data := .fields #[rawInt a, rawInt (Builtin.Range.rangeSize a b 1), rawInt 1] }) h₄.objs.size (a + ((0 : Nat) : Int) * 1) ((n2 : Int) - ((0 : Nat) : Int)) 1 := by
          show IsRangeIter _ _ _ _ _
          rw [hrn]
          simpa using Heap.get?_push_size _ rfl
        have F₅ : Fr h₀ L (h₄.push { cls := .type "range_iterator", data := .fields #[rawInt a, rawInt (Builtin.Range.rangeSize a b 1), rawInt 1] }) m := F₄.keeps fun _ _ e => Heap.get?_push_of_some _ e
        have N₅ : News h₀ L (h₄.push { cls := .type "range_iterator", data := .fields #[rawInt a, rawInt (Builtin.Range.rangeSize a b 1), rawInt 1] }) ((I, oI) :: (C, oC) :: (D, LCg.lst ys) :: nw) := N₄.grown fun _ _ e => Heap.get?_push_of_some _ e
        have offn : ∀ p ∈ nw, p.1 ≠ h₄.objs.size := fun p hp => z p (List.mem_cons_of_mem _ (List.mem_cons_of_mem _ (List.mem_cons_of_mem _ hp)))
        dsimp only
        generalize h₄.push { cls := .type "range_iterator", data := .fields #[rawInt a, rawInt (Builtin.Range.rangeSize a b 1), rawInt 1] } = h₅ at hIr F₅ N₅ ⊢
        generalize h₄.objs.size = I2 at *
        have zI := (N₅ (I, oI) (List.mem_cons_self ..)).1
        have zC := (N₅ (C, oC) (List.mem_cons_of_mem _ (List.mem_cons_self ..))).1
        have hst₅ : St (i + 1) h₅ := hSt _ _ _ _ _ hst₃ heI zI F₅.keep (fun p hp => N₅ p (List.mem_cons_of_mem _ (List.mem_cons_of_mem _ (List.mem_cons_of_mem _ hp)))) hS₄
        have inner : codeAny (model prog w) A (.compLoop (comp2 elt x1 p1 iter1 x2 p2 iter2 ifs scope pos) 1 (.ref I2) (.ref D) (compEnvC scope cl C env))
            (fun r s' => match r with | .ok _ => (∃ mm, mm < n + 1 - i ∧ B2o s₂ h₀ L m I C D n n2 St S J1 mm s') | .error e => cameBackBy (model prog w) A (compEnvC scope cl C env) (notedBy (model prog w) A (compEnvC scope cl C env) fun e s' => RR (.ref D) C (.error e) s') e s') { s₂ with heap := h₅, toks := tk₄ } := by
          refine code_in
            (B2i s₂ h₀ L m x1 I2 I C D a i n2 v St S J2) ?_ (n2 + 1)
            ⟨h₅, tk₄, 0, ys, _, oI, nw, rfl, Nat.zero_le _, rfl, hyl, hIr, zI, hst₅, F₅, hoC.ns zC, by simp, fun p hp => N₅ p (List.mem_cons_of_mem _ (List.mem_cons_of_mem _ hp)), fun p hp => ⟨offn p hp, off₄.mem p hp⟩, hS₄, hJ₄⟩
          rintro k s' rq1
          walk_at "open"
          obtain ⟨h₆, tk₆, j, ys', m₆, oI₆, nw₆, rfl, hj, rfl, hyl₆, hit₆, hI₆, hst₆, F₆, hn₆, hx₆, N₆, off₆, hS₆, hJ₆⟩ := rq1
          walk_at "shut"
          by_cases hjl : j < n2
          · refine W2.item j _ _ _ hjl hit₆ fun v₂ h₇ tk₇ hPv₇ hit₇ hk₇ => ?_
            obtain ⟨t₇, rfl⟩ := hPv₇
            refine wpAny_assign_Name (wpAny_storeName_local (lookup_relabel_local hx2) (hn₆.at' fun o e => hk₇ _ o (by simpa using hI2C) e) (fun h₈ hn₈ hs₈ => ?_) (by simp [compEnvC, relabel, hkind]))
            have hI₈ : h₈.get? I = some oI₆ := hs₈.extBut _ _ hCI (hk₇ _ _ (by simpa using hI2I) hI₆)
            have hit₈ := W2.frame _ _ h₈ hit₇ fun b hb o e => hs₈.extBut b o (fun q => by rw [List.mem_singleton.mp hb] at q; exact hI2C q.symm) e
            walk_at "open"
            obtain ⟨oC₈, heC₈, hoC₈⟩ := LCg.ns_obj hn₈
            walk_at "shut"
            have F₈ : Fr h₀ L h₈ m := (LCg.fr_but F₆ hk₇ hI2L hI20).change hs₈ hCL hC₀
            have N₇ : News h₀ L h₇ ((D, LCg.lst ys') :: nw₆) := LCg.news_but N₆ hk₇ fun p hp => by
              rcases List.mem_cons.mp hp with rfl | hp
              · exact hI2D
              · exact (off₆ p hp).1
            have hit₈' : h₈.get? I2 = some { cls := .type "range_iterator", data := .fields #[rawInt (a + ((j + 1 : Nat) : Int) * 1), rawInt ((n2 : Int) - ((j + 1 : Nat) : Int)), rawInt 1] } := hit₈
            have N₈D : News h₀ L h₈ ((D, LCg.lst ys') :: nw₆) := fun p hp => by
              have z := N₇ p hp
              refine ⟨hs₈.extBut _ _ ?_ z.1, z.2⟩
              rcases List.mem_cons.mp hp with rfl | hp
              · exact hDC
              · exact (off₆ p hp).2.2.1
            have N₈ : News h₀ L h₈ ((I2, _) :: (I, oI₆) :: (C, oC₈) :: (D, LCg.lst ys') :: nw₆) := fun p hp => by
              rcases List.mem_cons.mp hp with rfl | hp
              · exact ⟨hit₈', Ne.symm hI2L, hI20⟩
              · rcases List.mem_cons.mp hp with rfl | hp
                · exact ⟨hI₈, Ne.symm hIL, hI₀⟩
                · rcases List.mem_cons.mp hp with rfl | hp
                  · exact ⟨heC₈, hCL, hC₀⟩
                  · exact N₈D p hp
            have hst₈ : St (i + 1) h₈ := hSt _ _ _ _ _ hst₆ hI₆ hI₈ F₈.keep (fun p hp => N₈D p (List.mem_cons_of_mem _ hp)) hS₆
            refine wpAny_mono (step i j v t₇ ys' nw₆ I2 _ oI₆ C oC₈ D _ h₈ _ _ hlt hjl hPv hJ₆ hoC₈ (by rw [if_neg h12]; exact hx₆) (by simp) F₈ N₈ off₆) (fun ok s₉ h₉ => ?_) fun _ _ e => e
            have back : ∀ (h₉ : Heap) (tk₉ : Nat) (nw₉ : Led) (ys₉ : List Value), Fr h₀ L h₉ m → News h₀ L h₉ ((I2, { cls := .type "range_iterator", data := .fields #[rawInt (a + ((j + 1 : Nat) : Int) * 1), rawInt ((n2 : Int) - ((j + 1 : Nat) : Int)), rawInt 1] }) :: (I, oI₆) :: (C, oC₈) :: (D, LCg.lst ys₉) :: nw₉) → OffA I2 I C D nw₉ → S nw₉ → J2 i (j + 1) ys₉ nw₉ → ys₉.length ≤ i * n2 + (j + 1) →
                ∃ mm, mm < n2 + 1 - j ∧ B2i s₂ h₀ L m x1 I2 I C D a i n2 v St S J2 mm { s₂ with heap := h₉, toks := tk₉ } := fun h₉ tk₉ nw₉ ys₉ F₉ N₉ off₉ hS₉ hJ₉ hyl₉ => by
              have y0 := (N₉ _ (List.mem_cons_self ..)).1
              have y1 := (N₉ (I, oI₆) (List.mem_cons_of_mem _ (List.mem_cons_self ..))).1
              have y2 := (N₉ (C, oC₈) (List.mem_cons_of_mem _ (List.mem_cons_of_mem _ (List.mem_cons_self ..)))).1
              refine ⟨n2 + 1 - (j + 1), sub_dec hjl, h₉, tk₉, j + 1, ys₉, _, oI₆, nw₉, rfl, hjl, rfl, hyl₉, y0, y1, hSt _ _ _ _ _ hst₈ hI₈ y1 F₉.keep (fun p hp => N₉ p (List.mem_cons_of_mem _ (List.mem_cons_of_mem _ (List.mem_cons_of_mem _ (List.mem_cons_of_mem _ hp))))) hS₉, F₉, hoC₈.ns y2, by rw [if_neg h12]; exact hx₆, fun p hp => N₉ p (List.mem_cons_of_mem _ (List.mem_cons_of_mem _ (List.mem_cons_of_mem _ hp))), off₉, hS₉, hJ₉⟩
            cases ok with
            | false =>
              simp only [Bool.false_eq_true, if_false] at h₉ ⊢
              walk_at "open"
              obtain ⟨h₉, tk₉, nw₉, rfl, F₉, N₉, off₉, hS₉, hJ₉⟩ := h₉
              walk_at "shut"
              exact back h₉ tk₉ nw₉ ys' F₉ N₉ off₉ hS₉ hJ₉ (by lia)
            | true =>
              simp only [if_true] at h₉ ⊢
              refine wpAny_mono h₉ (fun y s₁₀ h₁₀ => ?_) fun _ _ e => e
              walk_at "open"
              obtain ⟨h₁₀, tk₁₀, nw₁₀, rfl, F₁₀, N₁₀, off₁₀, hS₁₀, hJ₁₀⟩ := h₁₀
              walk_at "shut"
              have zD := (N₁₀ (D, LCg.lst ys') (List.mem_cons_of_mem _ (List.mem_cons_of_mem _ (List.mem_cons_of_mem _ (List.mem_cons_self ..))))).1
              have hin : i * n2 + j ≤ 1000000 := by
                have h1 : (i + 1) * n2 ≤ n * n2 := Nat.mul_le_mul_right _ hlt
                rw [Nat.add_mul, Nat.one_mul] at h1
                lia
              refine append_at (hsz := by show ys'.toArray.size ≤ sizeLine; rw [List.size_toArray, sizeLine_eq]; lia) zD fun h₁₁ hs₁₁ hD₁₁ => ?_
              refine back h₁₁ tk₁₀ nw₁₀ (ys' ++ [y]) (F₁₀.change hs₁₁ hDL hD₀) (fun p hp => ?_) off₁₀ hS₁₀ hJ₁₀ (by rw [List.length_append, List.length_singleton]; lia)
              rcases List.mem_cons.mp hp with rfl | hp
              · exact ⟨hs₁₁.extBut _ _ (Ne.symm hI2D) (N₁₀ _ (List.mem_cons_self ..)).1, Ne.symm hI2L, hI20⟩
              · rcases List.mem_cons.mp hp with rfl | hp
                · exact ⟨hs₁₁.extBut _ _ hDI (N₁₀ _ (List.mem_cons_of_mem _ (List.mem_cons_self ..))).1, Ne.symm hIL, hI₀⟩
                · rcases List.mem_cons.mp hp with rfl | hp
                  · exact ⟨hs₁₁.extBut _ _ (Ne.symm hDC) (N₁₀ _ (List.mem_cons_of_mem _ (List.mem_cons_of_mem _ (List.mem_cons_self ..)))).1, hCL, hC₀⟩
                  · rcases List.mem_cons.mp hp with rfl | hp
                    · exact ⟨hD₁₁.trans (congrArg some (LCg.lst_snoc ys' y)), hDL, hD₀⟩
                    · have q := N₁₀ p (List.mem_cons_of_mem _ (List.mem_cons_of_mem _ (List.mem_cons_of_mem _ (List.mem_cons_of_mem _ hp))))
                      exact ⟨hs₁₁.extBut _ _ (off₁₀ p hp).2.2.2 q.1, q.2⟩
          · obtain rfl : j = n2 := Nat.le_antisymm hj (Nat.not_lt.mp hjl)
            refine W2.done _ _ _ hit₆ fun h₇ tk₇ hk₇ => ?_
            refine ⟨n + 1 - (i + 1), sub_dec hlt, h₇, tk₇, i + 1, ys', _, nw₆, rfl, hlt, rfl, by rw [Nat.add_mul, Nat.one_mul]; exact hyl₆, hSt _ _ _ _ _ hst₆ hI₆ (hk₇ _ _ (by simpa using hI2I) hI₆) (fun b o e => (LCg.fr_but F₆ hk₇ hI2L hI20).keep b o e) (LCg.news_but (fun p hp => N₆ p (List.mem_cons_of_mem _ hp)) hk₇ fun p hp => (off₆ p hp).1) hS₆,
              LCg.fr_but F₆ hk₇ hI2L hI20, hn₆.at' fun o e => hk₇ _ o (by simpa using hI2C) e, LCg.news_but N₆ hk₇ fun p hp => ?_, LCg.Off3.of fun p hp => (off₆ p hp).2, hS₆, cls _ _ _ hlt hJ₆⟩
            rcases List.mem_cons.mp hp with rfl | hp
            · exact hI2D
            · exact (off₆ p hp).1
        exact start_in inner (W2.self 0 _ _ _ hIr inner)
      · obtain rfl : i = n := Nat.le_antisymm hi (Nat.not_lt.mp hlt)
        refine W.done _ _ _ hst' fun h₂ tk₂ hk₂ => ?_
        have off3 := off'.mem
        exact hRR _ _ h₂ tk₂ _ ys news' (LCg.fr_but F' hk₂ hIL hI₀) (LCg.news_but N' hk₂ fun p hp => by
          rcases List.mem_cons.mp hp with rfl | hp
          · exact Ne.symm hDI
          · exact (off3 p hp).1) off'.one (hn'.at' fun o e => hk₂ _ o (by simpa using Ne.symm hCI) e) hC₀ hD₀ hCL hDL (Ne.symm hDC) (fun p hp => (off3 p hp).2.1) (fin _ _ hJ)
    · rcases List.mem_cons.mp hp with rfl | hp
      · exact ⟨hacc, hDL, hD₀⟩
      · exact ⟨old _ _ (N p hp).1, (N p hp).2⟩
  exact codeAny_compStart_list (loop _ rfl) (W.self 0 _ _ _ hst₁ (loop _ rfl))
inductive Body2 (prog : Program) (w : World) (A : Around) (h₀ : Heap) (L : Addr) (m : Str → Option Value) (env : Env) (elt : Expr) (x1 x2 : Str) (iter2 : Expr) (ifs : List Expr) (scope : Scope) (cl : List (Str × Addr)) (s₂ : Shared) (S : Led → Prop) (P : Nat → Value → Prop) (n : Nat) (news : Led) (Fin : List Value → Led → Prop) : Prop
  | mk (J1 : Nat → List Value → Led → Prop) (J2 : Nat → Nat → List Value → Led → Prop) (n2 : Nat) (a : Int) (hz : n * n2 ≤ 1000000) (h0 : J1 0 [] news) (h : Rest2 prog w A h₀ L m env elt x1 x2 iter2 ifs scope cl s₂ S P n news Fin J1 J2 n2 a) : Body2 prog w A h₀ L m env elt x1 x2 iter2 ifs scope cl s₂ S P n news Fin
inductive Src2 (prog : Program) (w : World) (A : Around) (h₀ : Heap) (L : Addr) (m : Str → Option Value) (env : Env) (elt : Expr) (x1 x2 : Str) (iter2 : Expr) (ifs : List Expr) (scope : Scope) (cl : List (Str × Addr)) (Fin : Shared → List Value → Led → Prop) (xv : Value) (s₁ : Shared) : Prop
  | l (hh : A.handled = none) (ax : Addr) (its : Array Value) (news : Led) (e : xv = .ref ax) (F : Fr h₀ L s₁.heap m) (N : News h₀ L s₁.heap news) (S : LCg.SrcAt h₀ ax its news) (R : ∀ s₂ : Shared, (∃ h, s₂ = { s₁ with heap := h }) → Body2 prog w A h₀ L m env elt x1 x2 iter2 ifs scope cl s₂ (LCg.SrcAt h₀ ax its) (fun i v => its[i]? = some v) its.size news (Fin s₂)) : Src2 prog w A h₀ L m env elt x1 x2 iter2 ifs scope cl Fin xv s₁
  | r (hh : A.handled = none) (r : Addr) (a b : Int) (t u v : Tok) (n : Nat) (news : Led) (e : xv = .ref r) (F : Fr h₀ L s₁.heap m) (N : News h₀ L s₁.heap news) (hr : IsRange s₁.heap r a b 1 t u v) (hsm : Builtin.Range.small a b 1 = true) (hn : Builtin.Range.rangeSize a b 1 = ((n : Nat) : Int)) (R : ∀ s₂ : Shared, (∃ h, s₂ = { s₁ with heap := h }) → Body2 prog w A h₀ L m env elt x1 x2 iter2 ifs scope cl s₂ (fun _ => True) (fun i v => ∃ t, v = .int (a + (i : Int)) t) n news (Fin s₂)) : Src2 prog w A h₀ L m env elt x1 x2 iter2 ifs scope cl Fin xv s₁
theorem Src2.ledger {s₁ : Shared} {Fin : Shared → List Value → Led → Prop} {ax : Addr} {its : Array Value} {k : Nat} {news : Led} (hh : A.handled = none) (F : Fr h₀ L s₁.heap m) (N : News h₀ L s₁.heap news) (hm : (ax, ({ cls := .type "list", data := .seq its k } : Obj)) ∈ news)
    (h : ∀ g, Body2 prog w A h₀ L m env elt x1 x2 iter2 ifs scope cl { s₁ with heap := g } (LCg.SrcAt h₀ ax its) (fun i v => its[i]? = some v) its.size news (Fin { s₁ with heap := g })) :
    Src2 prog w A h₀ L m env elt x1 x2 iter2 ifs scope cl Fin (.ref ax) s₁ := .l hh ax its news rfl F N (.inr ⟨_, hm, rfl, _, rfl⟩) fun _ ⟨g, e⟩ => e ▸ h g
theorem Src2.range {s₁ : Shared} {Fin : Shared → List Value → Led → Prop} {r : Addr} {a b : Int} {t u v : Tok} {n : Nat} {news : Led} (hh : A.handled = none) (F : Fr h₀ L s₁.heap m) (N : News h₀ L s₁.heap news) (hr : IsRange s₁.heap r a b 1 t u v) (hsm : Builtin.Range.small a b 1 = true) (hn : Builtin.Range.rangeSize a b 1 = ((n : Nat) : Int))
    (h : ∀ g, Body2 prog w A h₀ L m env elt x1 x2 iter2 ifs scope cl { s₁ with heap := g } (fun _ => True) (fun i v => ∃ t, v = .int (a + (i : Int)) t) n news (Fin { s₁ with heap := g })) :
    Src2 prog w A h₀ L m env elt x1 x2 iter2 ifs scope cl Fin (.ref r) s₁ := .r hh r a b t u v n news rfl F N hr hsm hn fun _ ⟨g, e⟩ => e ▸ h g
theorem ListComp_2 {s : Shared} {Q : Value → Shared → Prop} (F₀ : Fr h₀ L s.heap m) (hclos : closureFor scope env = pure cl) (hcell : ∀ y ∈ scope.names, y.2 ≠ .cell) (hkind : scope.kind = .function)
    (hnames : ∀ y ∈ scope.names, y.2 = .local → scope.names.lookup y.1 = some .local) (hx1 : scope.names.lookup x1 = some .local) (hx2 : scope.names.lookup x2 = some .local) (h12 : x1 ≠ x2)
    (h : wpAny (model prog w) A (eval iter1 env) (Src2 prog w A h₀ L m env elt x1 x2 iter2 ifs scope cl (fun s₂ => LCg.FinE h₀ L m s₂ Q)) E s)
    (hs : ∀ x, foldedSetIterable iter1 env x = pure x) (hs' : ∀ C x, foldedSetIterable iter2 (compEnvC scope cl C env) x = pure x) :
    wpAny (model prog w) A (eval (.ListComp elt [⟨.Name x1 p1, iter1, [], 0⟩, ⟨.Name x2 p2, iter2, ifs, 0⟩] scope pos) env) Q E s := by
  rw [eval_ListComp]
  refine wpAny_comprehension_free (use := none) rfl hs hclos hkind hnames (wpAny_mono h (fun xv s₁ h₁ => ?_) fun _ _ e => e)
  obtain ⟨hh, ax, its, news, rfl, F, N, S, R⟩ | ⟨hh, r, a, b, t, u, v, n, news, rfl, F, N, hr, hsm, hn, R⟩ := h₁
  · have hl := S.list F.keep N
    have hlt : ax < s₁.heap.objs.size := by obtain ⟨_, e, _⟩ := hl; exact Heap.lt_size e
    refine wpAny_pyIter_list hl ?_
    walk_at "open"
    obtain ⟨J1, J2, n2, a, hsz, h0, hR⟩ := R { s₁ with heap := s₁.heap.push { cls := .type "list_iterator", data := .fields #[.ref ax, .int 0 0] } } ⟨_, rfl⟩
    walk_at "shut"
    have up : ∀ b o, s₁.heap.get? b = some o → (s₁.heap.push { cls := .type "list_iterator", data := .fields #[.ref ax, .int 0 0] }).get? b = some o := fun b o e => Heap.get?_push_of_some _ e
    refine block2 (x1 := x1) (x2 := x2) J1 J2 (Walks.list hh s₁.heap.objs.size ax (Nat.ne_of_lt hlt) its) hsz (fun i h st => by obtain ⟨o, e, _⟩ := st.1; exact ⟨o, e⟩) LCg.list_st hh hs' hcell hkind hx1 hx2 h12 ⟨⟨_, Heap.get?_push_size _ rfl, rfl, rfl⟩, hl.push _⟩ (fun b hb => ?_)
      (F.keeps up) (N.grown up) (Nat.ne_of_lt F.ns.lt) (next_is_new F) (fun p hp => Nat.ne_of_lt (Heap.lt_size (N p hp).1)) S h0 hR ?_
    · show b < (s₁.heap.push _).objs.size
      rw [Heap.size_push]
      rcases List.mem_cons.mp hb with rfl | hb
      · exact Nat.lt_succ_self _
      · rw [List.mem_singleton.mp hb]; exact Nat.lt_succ_of_lt hlt
    · intro D C h tk m' ys news' F' N' o1 hn hC₀ hD₀ hCL hDL hCD offC fin
      refine ⟨m', hn, fun h'' hs'' => fin D h'' tk (F'.change hs'' hCL hC₀) (fun p hp => ?_) o1⟩
      refine ⟨hs''.extBut _ _ ?_ (N' p hp).1, (N' p hp).2⟩
      rcases List.mem_cons.mp hp with rfl | hp
      · exact Ne.symm hCD
      · exact offC p hp
  · refine wpAny_pyIter_range hr hsm ?_
    walk_at "open"
    obtain ⟨J1, J2, n2, a', hsz, h0, hR⟩ := R { s₁ with heap := s₁.heap.push { cls := .type "range_iterator", data := .fields #[rawInt a, rawInt (Builtin.Range.rangeSize a b 1), rawInt 1] } } ⟨_, rfl⟩
    walk_at "shut"
    refine block2 (x1 := x1) (x2 := x2) J1 J2 (LCg.range_walks hh a n) hsz (fun i h st => ⟨_, st⟩) LCg.range_st hh hs' hcell hkind hx1 hx2 h12 (by show IsRangeIter _ _ _ _ _; rw [hn]; simpa using Heap.get?_push_size _ rfl) (fun b hb => ?_)
      (F.keeps fun _ _ e => Heap.get?_push_of_some _ e) (N.grown fun _ _ e => Heap.get?_push_of_some _ e) (Nat.ne_of_lt F.ns.lt) (next_is_new F) (fun p hp => Nat.ne_of_lt (Heap.lt_size (N p hp).1)) trivial h0 hR ?_
    · rw [List.mem_singleton.mp hb]
      show s₁.heap.objs.size < (s₁.heap.push _).objs.size
      rw [Heap.size_push]; exact Nat.lt_succ_self _
    · intro D C h tk m' ys news' F' N' o1 hn hC₀ hD₀ hCL hDL hCD offC fin
      refine ⟨m', hn, fun h'' hs'' => fin D h'' tk (F'.change hs'' hCL hC₀) (fun p hp => ?_) o1⟩
      refine ⟨hs''.extBut _ _ ?_ (N' p hp).1, (N' p hp).2⟩
      rcases List.mem_cons.mp hp with rfl | hp
      · exact Ne.symm hCD
      · exact offC p hp
end
end Mine

end
section
open PySem PySem.W PySem.W.X PyProof.Rows PySem.Calls PySem.Spec PyProof.V
noncomputable section
namespace Mine
noncomputable def iObj (P : Params) (cl : List (Str × Addr)) (dc pm : Value) (c : Addr) (ctv : Value) : Obj :=
  fnMade (innerIn P 43).1 (Str.ofString "_int2digits.<locals>.inner") (innerIn P 43).2.1 (innerIn P 43).2.2.1 (innerIn P 43).2.2.2 cl dc pm c ctv
structure Inn where
  (f la cN cI cA c1 : Addr)
  (oN oI oA o1 : Obj)
  (dc pm ctv : Value)
  (tn : Tok)
noncomputable def Inn.own (k : Inn) (P : Params) (vs : List Value) (n : Nat) : Led :=
  [(k.f, iObj P [(Str.ofString "n", k.cN), (Str.ofString "inner", k.cI), (Str.ofString "a_digits", k.cA)] k.dc k.pm k.c1 k.ctv), (k.c1, k.o1), (k.la, W.listOf vs.toArray n), (k.cI, k.oI), (k.cA, k.oA), (k.cN, k.oN)]
structure Inn.Ok (k : Inn) : Prop where
  dN : k.oN.data = .cell (some (.int 1 k.tn))
  dI : k.oI.data = .cell (some (.ref k.f))
  dA : k.oA.data = .cell (some (.ref k.la))
  code : codeHas k.o1 (Str.ofString "_int2digits.<locals>.inner")
  ord : @LT.lt Nat _ k.cN k.cA ∧ @LT.lt Nat _ k.cA k.cI ∧ @LT.lt Nat _ k.cI k.la ∧ @LT.lt Nat _ k.la k.f
  off : @LT.lt Nat _ k.c1 k.cN ∨ (@LT.lt Nat _ k.la k.c1 ∧ @LT.lt Nat _ k.c1 k.f)
noncomputable def pop (x : Int) : Int := x % 2 + x / 2 % 2 + x / 4 % 2
structure Wrote (ds ds' : List Int) (lo : Int) (j : Nat) (x : Int) : Prop where
  len : ds'.length = ds.length
  out : ∀ i : Nat, (i : Int) < lo ∨ lo + j ≤ i → ds'.getD i 0 = ds.getD i 0
  sum : ds'.sum = ds.sum + pop x
structure Blank (ds : List Int) (lo : Int) (j : Nat) : Prop where
  lo0 : 0 ≤ lo
  hi : lo + j ≤ ds.length
  zero : ∀ i : Nat, lo ≤ (i : Int) → (i : Int) < lo + j → ds.getD i 0 = 0
theorem wrote_leaf {ds : List Int} {lo x : Int} (B : Blank ds lo 1) (h0 : 0 ≤ x) (h1 : x < 2) : Wrote ds (ds.set lo.toNat x) lo 1 x := by
  have l0 := B.lo0
  have l1 := B.hi
  refine ⟨by simp, fun i hi => ?_, ?_⟩
  · have : i ≠ lo.toNat := by lia
    simp [List.getD_eq_getElem?_getD, List.getElem?_set, Ne.symm this]
  · rw [sum_set (by lia), B.zero lo.toNat (by lia) (by lia)]
    have : pop x = x := by
      have : x = 0 ∨ x = 1 := by lia
      rcases this with rfl | rfl <;> rfl
    lia
theorem wrote_node {ds ds' ds'' : List Int} {lo x xl xu : Int} {j : Nat} (W1 : Wrote ds ds' lo 1 xl) (W2 : Wrote ds' ds'' (lo + 1) j xu) (hp : pop x = pop xl + pop xu) : Wrote ds ds'' lo (j + 1) x :=
  ⟨W2.len.trans W1.len, fun i hi => (W2.out i (by lia)).trans (W1.out i (by lia)), by rw [W2.sum, W1.sum, hp]; lia⟩
theorem blank_left {ds : List Int} {lo : Int} {j : Nat} (B : Blank ds lo (j + 1)) : Blank ds lo 1 := ⟨B.lo0, by have := B.hi; lia, fun i a b => B.zero i a (by lia)⟩
theorem blank_right {ds ds' : List Int} {lo x : Int} {j : Nat} (B : Blank ds lo (j + 1)) (W : Wrote ds ds' lo 1 x) : Blank ds' (lo + 1) j :=
  ⟨by have := B.lo0; lia, by have := B.hi; rw [W.len]; lia, fun i a b => (W.out i (by lia)).trans (B.zero i (by lia) (by lia))⟩
theorem pop_node {x : Int} (h0 : 0 ≤ x) (h1 : x < 8) : pop x = pop (x % 2) + pop (x / 2) :=
  smallZ (P := fun x => pop x = pop (x % 2) + pop (x / 2)) 8 h0 h1 (by unfold pop; decide +kernel)
theorem rsh_eq {prog : Program} {w : World} {A : Around} {E : Value → Shared → Prop} {s : Shared} {a n y : Int} {t u : Tok} {Q : Value → Shared → Prop} (hn : 0 ≤ n) (e : a.fdiv (2 ^ n.toNat) = y) (h : Q (.int y s.toks) { s with toks := s.toks + 1 }) :
    wpAny (model prog w) A (binaryOp .RShift (.int a t) (.int n u)) Q E s := rshift_int hn (e ▸ h)
theorem rep_eq (k : Nat) : (List.replicate k [(0 : Int)]).flatten = List.replicate k 0 := krep_flat 0 k
theorem blank_rep (k : Nat) : Blank (List.replicate k [(0 : Int)]).flatten 0 k := by
  rw [rep_eq]
  refine ⟨Int.le_refl _, by simp, fun i _ _ => ?_⟩
  rw [List.getD_eq_getElem?_getD, List.getElem?_replicate]
  split <;> rfl
theorem sum_rep (k : Nat) : (List.replicate k [(0 : Int)]).flatten.sum = 0 := by
  rw [rep_eq]
  induction k with
  | zero => rfl
  | succ k ih => rw [List.replicate_succ, List.sum_cons, ih]; rfl
theorem wrote_sum {k : Nat} {ds' : List Int} {lo x : Int} {j : Nat} (W : Wrote (List.replicate k [(0 : Int)]).flatten ds' lo j x) : ds'.sum = pop x := by rw [W.sum, sum_rep]; lia
theorem mid2 {lo : Int} {j : Nat} (hj : j = 1 ∨ j = 2) : (lo + (lo + ((j + 1 : Nat) : Int))) / 2 = lo + 1 := by rcases hj with rfl | rfl <;> omega
end Mine

end
section
open PySem PySem.W PySem.W.X PyProof.Rows PySem.Calls PySem.Spec PyProof.V
namespace Mine
section
variable {prog : Program} {w : World} {A : Around} {E : Value → Shared → Prop} {h₀ : Heap} {L : Addr} {m : Str → Option Value} {env : Env}
variable {elt iter1 iter2 : Expr} {x1 x2 : Str} {p1 p2 pos : Pos} {ifs : List Expr} {scope : Scope} {cl : List (Str × Addr)}
theorem Assign_ListComp_2 {y : Str} {py spos : Pos} {s : Shared} {Q : Flow → Shared → Prop} (F₀ : Fr h₀ L s.heap m) (hLe : env.locals = L)
    (hsw : swapsWith (.ListComp elt [⟨.Name x1 p1, iter1, [], 0⟩, ⟨.Name x2 p2, iter2, ifs, 0⟩] scope pos) (some (.Name y py)) spos.line env = pure true)
    (hclos : closureFor scope env = pure cl) (hcell : ∀ y ∈ scope.names, y.2 ≠ .cell) (hkind : scope.kind = .function)
    (hnames : ∀ y ∈ scope.names, y.2 = .local → scope.names.lookup y.1 = some .local) (hx1 : scope.names.lookup x1 = some .local) (hx2 : scope.names.lookup x2 = some .local) (h12 : x1 ≠ x2)
    (hy : env.kindOf y = some .local) (hp : (env.scope.kind == .class || (env.scope.kind == .module && env.locals != env.globals)) = false)
    (h : wpAny (model prog w) A (eval iter1 env) (Src2 prog w A h₀ L m env elt x1 x2 iter2 ifs scope cl (fun s₂ => LCg.FinA h₀ L m s₂ y Q)) E s)
    (hs : ∀ x, foldedSetIterable iter1 env x = pure x) (hs' : ∀ C x, foldedSetIterable iter2 (compEnvC scope cl C env) x = pure x) :
    wpAny (model prog w) A (exec (.Assign [.Name y py] (.ListComp elt [⟨.Name x1 p1, iter1, [], 0⟩, ⟨.Name x2 p2, iter2, ifs, 0⟩] scope pos) spos) env) Q E s := by
  subst hLe
  rw [exec_Assign_Name_used _ _ _ _ hsw]
  refine wpAny_bind (wpAny_standAt (wpAny_bind ?_))
  show wpAny _ A (do let _ ← comprehension (.ListComp elt [⟨.Name x1 p1, iter1, [], 0⟩, ⟨.Name x2 p2, iter2, ifs, 0⟩] scope pos) scope env _ (newList []) false (eval iter1 env) (some (assign (.Name y py) env))) _ _ s
  refine wpAny_bind (wpAny_mono (wpAny_comprehension_free (use := some (assign (.Name y py) env)) (Q := fun _ s' => Q .next s') rfl hs hclos hkind hnames
    (wpAny_mono h (fun xv s₁ h₁ => ?_) fun _ _ e => e)) (fun _ s' hq => wpAny_pure (wpAny_pure hq)) fun _ _ e => e)
  obtain ⟨hh, ax, its, news, rfl, F, N, S, R⟩ | ⟨hh, r, a, b, t, u, v, n, news, rfl, F, N, hr, hsm, hn, R⟩ := h₁
  · have hl := S.list F.keep N
    have hlt : ax < s₁.heap.objs.size := by obtain ⟨_, e, _⟩ := hl; exact Heap.lt_size e
    refine wpAny_pyIter_list hl ?_
    walk_at "open"
    obtain ⟨J1, J2, n2, a, hsz, h0, hR⟩ := R { s₁ with heap := s₁.heap.push { cls := .type "list_iterator", data := .fields #[.ref ax, .int 0 0] } } ⟨_, rfl⟩
    walk_at "shut"
    have up : ∀ b o, s₁.heap.get? b = some o → (s₁.heap.push { cls := .type "list_iterator", data := .fields #[.ref ax, .int 0 0] }).get? b = some o := fun b o e => Heap.get?_push_of_some _ e
    refine block2 (x1 := x1) (x2 := x2) J1 J2 (Walks.list hh s₁.heap.objs.size ax (Nat.ne_of_lt hlt) its) hsz (fun i h st => by obtain ⟨o, e, _⟩ := st.1; exact ⟨o, e⟩) LCg.list_st hh hs' hcell hkind hx1 hx2 h12 ⟨⟨_, Heap.get?_push_size _ rfl, rfl, rfl⟩, hl.push _⟩ (fun b hb => ?_)
      (F.keeps up) (N.grown up) (Nat.ne_of_lt F.ns.lt) (next_is_new F) (fun p hp => Nat.ne_of_lt (Heap.lt_size (N p hp).1)) S h0 hR ?_
    · show b < (s₁.heap.push _).objs.size
      rw [Heap.size_push]
      rcases List.mem_cons.mp hb with rfl | hb
      · exact Nat.lt_succ_self _
      · rw [List.mem_singleton.mp hb]; exact Nat.lt_succ_of_lt hlt
    · intro D C h' tk m' ys news' F' N' o1 hn hC₀ hD₀ hCL hDL hCD offC fin
      show wpAny _ A (assign (.Name y py) env (.ref D)) _ _ _
      refine wpAny_assign_Name (wpAny_storeName_local hy F'.ns (fun h₂ hn₂ hs₂ => ?_) hp)
      have hL₀ : h₀.get? env.locals = none := Heap.get?_none_of_le F'.above
      have F₂ : Fr h₀ env.locals h₂ (fun z => if z = y then some (.ref D) else m z) := ⟨hn₂, fun b o e => hs₂.extBut b o (fun q => by rw [q, hL₀] at e; cases e) (F'.keep b o e), F'.above⟩
      refine ⟨m', hn.sameBut hs₂ hCL, fun h'' hs'' => fin D h'' _ (F₂.change hs'' hCL hC₀) (fun p hp => ?_) o1⟩
      have z : h₂.get? p.1 = some p.2 := hs₂.extBut _ _ (N' p hp).2.1 (N' p hp).1
      refine ⟨hs''.extBut _ _ ?_ z, (N' p hp).2⟩
      rcases List.mem_cons.mp hp with rfl | hp
      · exact Ne.symm hCD
      · exact offC p hp
  · refine wpAny_pyIter_range hr hsm ?_
    walk_at "open"
    obtain ⟨J1, J2, n2, a', hsz, h0, hR⟩ := R { s₁ with heap := s₁.heap.push { cls := .type "range_iterator", data := .fields #[rawInt a, rawInt (Builtin.Range.rangeSize a b 1), rawInt 1] } } ⟨_, rfl⟩
    walk_at "shut"
    refine block2 (x1 := x1) (x2 := x2) J1 J2 (LCg.range_walks hh a n) hsz (fun i h st => ⟨_, st⟩) LCg.range_st hh hs' hcell hkind hx1 hx2 h12 (by show IsRangeIter _ _ _ _ _; rw [hn]; simpa using Heap.get?_push_size _ rfl) (fun b hb => ?_)
      (F.keeps fun _ _ e => Heap.get?_push_of_some _ e) (N.grown fun _ _ e => Heap.get?_push_of_some _ e) (Nat.ne_of_lt F.ns.lt) (next_is_new F) (fun p hp => Nat.ne_of_lt (Heap.lt_size (N p hp).1)) trivial h0 hR ?_
    · rw [List.mem_singleton.mp hb]
      show s₁.heap.objs.size < (s₁.heap.push _).objs.size
      rw [Heap.size_push]; exact Nat.lt_succ_self _
    · intro D C h' tk m' ys news' F' N' o1 hn hC₀ hD₀ hCL hDL hCD offC fin
      show wpAny _ A (assign (.Name y py) env (.ref D)) _ _ _
      refine wpAny_assign_Name (wpAny_storeName_local hy F'.ns (fun h₂ hn₂ hs₂ => ?_) hp)
      have hL₀ : h₀.get? env.locals = none := Heap.get?_none_of_le F'.above
      have F₂ : Fr h₀ env.locals h₂ (fun z => if z = y then some (.ref D) else m z) := ⟨hn₂, fun b o e => hs₂.extBut b o (fun q => by rw [q, hL₀] at e; cases e) (F'.keep b o e), F'.above⟩
      refine ⟨m', hn.sameBut hs₂ hCL, fun h'' hs'' => fin D h'' _ (F₂.change hs'' hCL hC₀) (fun p hp => ?_) o1⟩
      have z : h₂.get? p.1 = some p.2 := hs₂.extBut _ _ (N' p hp).2.1 (N' p hp).1
      refine ⟨hs''.extBut _ _ ?_ z, (N' p hp).2⟩
      rcases List.mem_cons.mp hp with rfl | hp
      · exact Ne.symm hCD
      · exact offC p hp
end
end Mine

end
section
open PySem PySem.W PySem.W.X PyProof.Rows PySem.Calls PySem.Spec PyProof.V
noncomputable section
namespace Mine
noncomputable def dgObj (P : Params) (cl : List (Str × Addr)) (dc pm : Value) (c : Addr) (ctv : Value) : Obj :=
  fnMade (innerIn P 50).1 (Str.ofString "_digits2int.<locals>.inner") (innerIn P 50).2.1 (innerIn P 50).2.2.1 (innerIn P 50).2.2.2 cl dc pm c ctv
noncomputable def Inn.ownD (k : Inn) (P : Params) (vs : List Value) (n : Nat) : Led :=
  [(k.f, dgObj P [(Str.ofString "n", k.cN), (Str.ofString "inner", k.cI), (Str.ofString "digits", k.cA)] k.dc k.pm k.c1 k.ctv), (k.c1, k.o1), (k.la, W.listOf vs.toArray n), (k.cI, k.oI), (k.cA, k.oA), (k.cN, k.oN)]
structure Inn.OkD (k : Inn) : Prop where
  dN : k.oN.data = .cell (some (.int 1 k.tn))
  dI : k.oI.data = .cell (some (.ref k.f))
  dA : k.oA.data = .cell (some (.ref k.la))
  code : codeHas k.o1 (Str.ofString "_digits2int.<locals>.inner")
noncomputable def val (ds : List Int) (lo : Nat) : Nat → Int
  | 0 => 0
  | j + 1 => ds.getD lo 0 + 2 * val ds (lo + 1) j
theorem val_bound {ds : List Int} (hb : ∀ d ∈ ds, d = 0 ∨ d = 1) : ∀ (j lo : Nat), 0 ≤ val ds lo j ∧ val ds lo j < 2 ^ j
  | 0, _ => ⟨Int.le_refl _, by show (0 : Int) < 1; lia⟩
  | j + 1, lo => by
    have h := val_bound hb j (lo + 1)
    have : ds.getD lo 0 = 0 ∨ ds.getD lo 0 = 1 := by
      rw [List.getD_eq_getElem?_getD]
      cases e : ds[lo]? with
      | none => exact .inl rfl
      | some d => exact hb d (List.mem_of_getElem? e)
    have e : (2 : Int) ^ (j + 1) = 2 ^ j * 2 := Int.pow_succ 2 j
    show 0 ≤ ds.getD lo 0 + 2 * val ds (lo + 1) j ∧ ds.getD lo 0 + 2 * val ds (lo + 1) j < 2 ^ (j + 1)
    lia
theorem val_one (ds : List Int) (lo : Nat) : val ds lo 1 = ds.getD lo 0 := by show ds.getD lo 0 + 2 * 0 = _; lia
theorem val_node (ds : List Int) (lo j : Nat) : val ds (lo + 1) j * 2 + val ds lo 1 = val ds lo (j + 1) := by rw [val_one]; show _ = ds.getD lo 0 + 2 * val ds (lo + 1) j; lia
end Mine

end
section
open PySem PySem.Calls PyProof.Rows PySem.W
namespace Mine
noncomputable def loose3 : List Str := [Str.ofString "compute_powers", Str.ofString "b1_set", Str.ofString "b3_exceptions"]
noncomputable abbrev HK : Hook := kmHook Khp asK hasK [38, 177, 45]
noncomputable abbrev RW : RowW := PySem.Challenge.rw_to0079_01.row.toRowW
noncomputable abbrev Xt : Shared → Bool := fun s => xlAt V [] s && recOk RW.records s
noncomputable abbrev fs (w : World) (os : OsState) : Shared := ⟨H1 w.params, #[], {}, 2458, os⟩
theorem open_ok : ∀ w : World, (fencedOpening treeTable pw w 30000).map (fun s => (s.heap, s.gens, s.drawn, s.toks)) = some (boot_heap w.params, Array.mk [], boot_drawn, boot_toks) :=
  boot_open (by kernel_rfl) (by decide) (fun s => by kernel_rfl)
theorem size_ok : ∀ w : World, ((boot_heap w.params).isNs mainGlobals && (Array.mk [] : Array GenState).size == 0, (boot_heap w.params).objs.size, (boot_heap w.params).nsMap mainGlobals "__annotations__") = (true, 11, ann6) := by
  intro w
  kernel_rfl
theorem look1a (w : World) : staticsOk (importedModules pw.main.body) (boot_heap w.params) (H1 w.params) = true := by kernel_rfl
theorem look1b (w : World) : namesBound pw (H1 w.params) = true := by kernel_rfl
theorem look1c (w : World) (os : OsState) : gensDone (fs w os) = true := by kernel_rfl
theorem look1d (w : World) : laidKept (boot_heap w.params) (H1 w.params) = true := by kernel_rfl
theorem look3 (w : World) (os : OsState) : HK.obs (fs w os) = HK.val w := by kernel_rfl
theorem look2 (w : World) (os : OsState) : openSeen V loose3 (importedModules pw.main.body) Xt true (fs w os) = openGood V loose3 := by
  rw [PySem.W.Fast.te4187177175401517315]
  kernel_rfl
end Mine

end
section
open PySem PySem.Calls PyProof.Rows PySem.W
namespace Mine
theorem said_ok : OpenLaw.wellSaid PySem.Challenge.rw_to0079_01 = true := by
  rw [PySem.W.Fast.te9446332074065402090]
  kernel_rfl
theorem left_ok : LeftO PySem.Challenge.rw_to0079_01.row.prog V loose3 Xt (kmHook Khp asK hasK [38, 177, 45]).obs (kmHook Khp asK hasK [38, 177, 45]).val 30000 := by
  refine LeftO.of_pieces (p := pw) open_ok size_ok run_all (by decide +kernel) fun w => ?_
  funext os
  rw [look1a, look1b, look1d, show gensDone ⟨H1 w.params, #[], {}, 2458, os⟩ = true from look1c w os, show openSeen V loose3 (importedModules pw.main.body) Xt true ⟨H1 w.params, #[], {}, 2458, os⟩ = openGood V loose3 from look2 w os, show HK.obs ⟨H1 w.params, #[], {}, 2458, os⟩ = HK.val w from look3 w os]
  rfl
end Mine

end
section
open PySem.Spec PyProof.V PySem PySem.W PySem.W.X PyProof.Rows PySem.Calls
open Mine
set_option hygiene false in
local macro_rules | `(tactic| k_clsL) => `(tactic| (with_reducible show @LT.lt Nat _ _ _; first | (apply And.left; first | with_reducible assumption | (apply And.right; first | with_reducible assumption | (apply And.right; first | with_reducible assumption | (apply And.right; first | with_reducible assumption | (apply And.right; first | with_reducible assumption | (apply And.right; first | with_reducible assumption | (apply And.right; first | with_reducible assumption | (apply And.right; first | with_reducible assumption | (apply And.right; first | with_reducible assumption | (apply And.right; first | with_reducible assumption | (apply And.right; first | with_reducible assumption | (apply And.right; with_reducible assumption)))))))))))) | (first | with_reducible assumption | (apply And.right; first | with_reducible assumption | (apply And.right; first | with_reducible assumption | (apply And.right; first | with_reducible assumption | (apply And.right; first | with_reducible assumption | (apply And.right; first | with_reducible assumption | (apply And.right; first | with_reducible assumption | (apply And.right; first | with_reducible assumption | (apply And.right; first | with_reducible assumption | (apply And.right; first | with_reducible assumption | (apply And.right; first | with_reducible assumption | (apply And.right; with_reducible assumption))))))))))))))
set_option hygiene false in
local macro_rules | `(tactic| k_lt $h:ident) => `(tactic| ((first | ((replace $h := Mine.lts_of $h); dsimp only [Mine.Lts] at $h:ident; fail_if_success (unfold Mine.Lts at $h:ident)) | ((replace $h := allLt_of $h); simp only [AllLt, and_true] at $h:ident)); (try (guard_hyp $h : True; clear $h))))
set_option hygiene false in
local macro_rules | `(tactic| k_ne) => `(tactic| (refine neN ?_; (try dsimp only); first | with_reducible assumption | (apply Nat.ne_of_lt; k_clsL) | (apply Nat.ne_of_gt; k_clsL) | (apply Nat.ne_of_lt; (first | with_reducible exact Nat.lt_succ_self _ | (with_reducible apply Nat.lt_succ_of_lt; first | with_reducible assumption | k_clsL | with_reducible exact Nat.lt_succ_self _ | (with_reducible apply Nat.lt_succ_of_lt; first | with_reducible assumption | k_clsL | with_reducible exact Nat.lt_succ_self _ | (with_reducible apply Nat.lt_succ_of_lt; first | with_reducible assumption | k_clsL | with_reducible exact Nat.lt_succ_self _))) | (with_reducible apply Nat.lt_of_succ_lt; (first | with_reducible assumption | (with_reducible apply Nat.lt_of_succ_lt; with_reducible assumption))))) | (apply Nat.ne_of_gt; (first | with_reducible exact Nat.lt_succ_self _ | (with_reducible apply Nat.lt_succ_of_lt; first | with_reducible assumption | k_clsL | with_reducible exact Nat.lt_succ_self _ | (with_reducible apply Nat.lt_succ_of_lt; first | with_reducible assumption | k_clsL | with_reducible exact Nat.lt_succ_self _ | (with_reducible apply Nat.lt_succ_of_lt; first | with_reducible assumption | k_clsL | with_reducible exact Nat.lt_succ_self _))) | (with_reducible apply Nat.lt_of_succ_lt; (first | with_reducible assumption | (with_reducible apply Nat.lt_of_succ_lt; with_reducible assumption))))) | lia))
set_option hygiene false in
local macro_rules | `(tactic| k_all) => `(tactic| first | exact Mine.fnil | exact Mine.fcons (by k_ne) (by k_all))
set_option hygiene false in
local macro_rules | `(tactic| walk_at "eval Name") => `(tactic| (k_here; k_dflt (refine' nameX_L ?zF ?zv ?_ ?za ?zb; (case zF => k_asm); (case za => exact @rfl ScopeKind .function); (case zb => exact @rfl (Option NameKind) (some .local)); (case zv => exact @rfl (Option Value) (some _)); k_whole)))
set_option hygiene false in
local macro_rules | `(tactic| walk_at $s:str) => `(tactic| (k_here; (fail_if_success (fail_if_success (have hm : Mine.Halt $s := by with_reducible assumption))); refine Mine.stop_ ?_))
set_option hygiene false in
local macro_rules | `(tactic| walk_at "eval Constant int") => `(tactic| with_reducible refine Mine.const_i ?_)
set_option hygiene false in
local macro_rules | `(tactic| walk_at "eval Constant str") => `(tactic| with_reducible refine Mine.const_s ?_)
local macro_rules | `(tactic| walk_at "storeName") => `(tactic| (k_dflt (refine Mine.store_L (by k_asm) (by k_asm) ?_ rfl rfl; k_whole); intro h' F' N'; (try k_sweep)))
set_option hygiene false in
local macro_rules | `(tactic| walk_at "storeName") => `(tactic| with_reducible refine Mine.stopS (by with_reducible assumption) ?_)
set_option hygiene false in
local macro_rules | `(tactic| walk_at "ite") => `(tactic| first | with_reducible refine ite_pos (by assumption) ?_ | with_reducible refine ite_neg (by assumption) ?_)
set_option hygiene false in
local macro_rules | `(tactic| k_all) => `(tactic| with_reducible assumption)
local macro_rules | `(tactic| walk_at "fold") => `(tactic| ((fail_if_success (fail_if_success (refine (?_ : wpAny _ _ _ _ _ _); k_fold))); refine (let q := _; let e := _; (?_ : wpAny _ _ _ q e _))))
local macro_rules | `(tactic| k_steps) => `(tactic| repeat' (first | (k_unfold; (try walk_at "red")) | (k_end; wrow_close) | (walk1; (try walk_at "red")) | (walk_at "red"; walk1) | (leave1; try walk_at "red")))
set_option hygiene false in
local macro_rules | `(tactic| mul_fits) => `(tactic| first | exact PySem.IntMulOk.of_left (by with_reducible assumption) | exact PySem.IntMulOk.of_right (by with_reducible assumption))
set_option hygiene false in
local macro_rules | `(tactic| size_fits) => `(tactic| first | exact Nat.le_of_ble_eq_true rfl | exact Mine.sz1000 (by assumption))
section
open PySem.Spec PyProof.V PySem PySem.W PySem.W.X PyProof.Rows PySem.Calls
namespace Mine
theorem c_pow1 {w : World} {p : Program} {loose : List Str} {mean : ExcName → Option Value} {mg mb : Str → Option Value} {A₀ : Around} {base h₀ : Heap} {outer : List Env} {cs : Scope} {L : Addr} {m : Str → Option Value} {s : Shared} {dp un : Nat} {gd : Option (List Code)} {cn : Str} {a : Addr} {ccd : Value} {cl : List (Str × Addr)} {rest : Led} {R : Result → Shared → Prop}
   {t1 t2 t3 : Tok} (hr : PySem.Challenge.rw_to0079_01 = PySem.Challenge.rw_to0079_01)
   (C : Ctx (Khp w.params) p loose mean mg mb A₀ base h₀ outer cs L m s dp 3 un 20) (N : News h₀ L s.heap rest) 
   (k : ∀ (d : Addr) (o : Obj) (u1 u2 : Tok) h' tk' d', (d == sysModules) = false → o.IsDictOf (intKind PySem.Challenge.pw_to0079_01 w) [(1, .int 2 u1)] → FlatPairs PyData.int [(1, .int 2 u1)] ([(PyData.int 1, PyData.int 2)]) → Fr h₀ L h' m → News h₀ L h' ((d, o) :: rest) → R (.ok (.ret (.ref d))) {s with heap := h', toks := tk', drawn := d'}) :
   codeAny (model PySem.Challenge.pw_to0079_01 w) (ktrTop dp un gd cn cs L a ccd cl outer) (.call (.ref 22) ⟨[.int 2 t1, .int 2 t2, .int 1 t3], []⟩) R s := by
  revert hr C
  k_fill
  intro _ C
  refine' enterK (M := []) C N (fun _ _ h => nomatch h) ?k6 ?k7 ?k9 ?kB ?_ ?c5 ?c2 ?c3 ?c4
  case k6 => k_is
  case k7 => k_is
  case k9 => exact binds_K (C.X.keeps C.F.keep) rfl (by k_is) rfl rfl rfl
  case kB => exact locs rfl
  case c5 => decide
  case c2 => exact rfl
  case c3 => exact rfl
  case c4 => exact rfl
  have hd := C.hd
  have hu := C.hu
  have hke := C.hke
  clear C N
  intro g' L' h₁ tk₁ FG' F' N' B' st X' T' fr l1 vk ak
  (try walk_at "red")
  walk_at "fold"
  have h1M : Halt "pyIter ref" := trivial
  clear st
  replace F' : Fr g' L' h₁ (fun z => if z = Str.ofString "show" then some (.bool false) else if z = Str.ofString "more_than" then some (.int 1 t3) else if z = Str.ofString "base" then some (.int 2 t2) else if z = Str.ofString "w" then some (.int 2 t1) else none) := fr_congr F' (fun z => look1 z (look1 z (look1 z (look1 z rfl))))
  (try walk_at "fold")
  (try refine (let m : Str → Option Value := _; have F' : Fr _ _ _ m := ‹Fr _ _ _ _›; ?_))
  have p1M : Halt "call type:set nil nil" := trivial
  have p2M : Halt "call builtin:set.add" := trivial
  have p3M : Halt "truthy ref" := trivial
  have p4M : Halt "getMethod ref" := trivial
  have p5M : Halt "call builtin:set.pop" := trivial
  have p6M : Halt "call builtin:sorted" := trivial
  have p7M : Halt "call builtin:iter" := trivial
  have p8M : Halt "call builtin:next" := trivial
  repeat (k_steps; refine go_ ?_; first
    | (k_dflt (refine ksn_new (by k_asm) (by k_asm) ?_); intro d' h' F' N' l1 hs'; (try k_lt l1))
    | ((with_reducible show wpAny _ _ (call (Value.builtin "set.add") [Value.ref _, Value.int _ _]) _ _ _); k_dflt (first
      | (refine' ksn_add1 ?zF ?zN ?zU ?_; (case zF => k_asm); (case zN => k_asm); (case zU => k_updF))
      | (refine' ksn_add2 ?zF ?zN ?zU ?_; (case zF => k_asm); (case zN => k_asm); (case zU => k_updF))
      | (refine' ksn_add21 ?zF ?zN ?zU ?_; (case zF => k_asm); (case zN => k_asm); (case zU => k_updF))); intro h' F' N' hs'; (try dsimp only at N'); (try k_sweep))
    | (k_dflt (refine' ksn_truthy ?zN ?zm ?zs ?zn ?_; (case zN => k_asm); (case zm => k_mem); (case zs => k_asm); (case zn => decide)))
    | ((with_reducible show wpAny _ _ (getMethod (Value.ref _) (Str.ofString "pop") _) _ _ _); k_dflt (refine' ksn_popm ?zN ?zm ?zs ?_; (case zN => k_asm); (case zm => k_mem); (case zs => k_asm)))
    | (k_dflt (refine' ksn_pop ?zF ?zN ?zU ?zs ?_; (case zF => k_asm); (case zN => k_asm); (case zU => k_updF); (case zs => k_asm)); intro h' so' t' d' F' N' hs'; (try dsimp only at N'); (try k_sweep); (try walk_at "red"); try refine (let T : Nat := _; (?_ : wpAny _ _ _ _ _ (Shared.mk _ _ _ T _))))
    | (k_dflt (refine' sorted_one ?zF ?zN rfl ?zm ?_; (case zF => k_asm); (case zN => k_asm); (case zm => k_mem); intro DD ee uu h' tk' F' N' l1D); (try k_lt l1D))
    | (k_dflt (refine' sorted_two ?zF ?zN rfl ?zm ?_; (case zF => k_asm); (case zN => k_asm); (case zm => k_mem); intro DD ee uu vv h' tk' F' N' l1D); (try k_lt l1D))
    | (k_dflt (refine' ksn_iter ?zF ?zN ?zm ?_; (case zF => k_asm); (case zN => k_asm); (case zm => k_mem)); intro II h' F' N' l1I; (try k_lt l1I))
    | (k_dflt (refine' ksn_next ?zF ?zN ?zU ?zm ?zx ?_; (case zF => k_asm); (case zN => k_asm); (case zU => k_updF); (case zm => k_mem); (case zx => rfl)); intro h' F' N'; (try dsimp only at N'); (try k_sweep))
    | (k_dflt (refine' kse_method (knd := PySem.intKind _ _) ?zN ?zU ?zd ?zz ?_; (case zN => k_asm); (case zU => k_updF); (case zd => k_asm); (case zz => kse_small)))
    | (k_dflt (refine' kse_add (knd := PySem.intKind _ _) ?zF ?zN ?zU ?zd ?zz (intKind_is _ _ _ _) rfl ?_; (case zF => k_asm); (case zN => k_asm); (case zU => k_updF); (case zd => k_asm); (case zz => kse_small)); intro h' o' F' N' hs'; (try dsimp only at N'); (try k_sweep))
    ; (try walk_at "red"))
  k_steps
  refine go_ ?_
  rename_i dd _ _ lo _ _ _ _ l1d _ _ _ _ _ _ _ _ _ _ oo F9 N9 hd9 hf9
  refine it_rest (l := DD) (I := II) (vs := [.int 1 uu]) (k := ee) (i0 := 1) (n := 0) rfl (fun _ m N => m (Str.ofString "d") = some (.ref dd) ∧ N = [(DD, W.listOf #[.int 1 uu] ee), (dd, oo)]) rfl ?_ F9 (news := [(DD, W.listOf #[.int 1 uu] ee), (dd, oo)]) ((news_blk [[_], [_], [_], [_], [_], [_]] [0, 1, 2] N9)) ?_ ⟨rfl, rfl⟩ ?_ ?_
  · rintro i m' n' ⟨_, rfl⟩
    exact List.mem_cons_self ..
  · intro q hq
    revert q
    (refine fcons ?_ (fcons ?_ fnil)) <;> k_ne
  · intro i v m₁ n₁ h tk oI hv
    exact absurd hv (by simp)
  · rintro h tk m₁ n₁ ⟨e1, rfl⟩ F1 N1
    have F2 := fr1 F1 (a := Str.ofString "d") e1
    clear F9 N9
    (try walk_at "fold")
    (try refine (let m : Str → Option Value := _; have F' : Fr _ _ _ m := ‹Fr _ _ _ _›; ?_))
    k_steps
    (try k_unfold)
    refine leaveM_ (M' := [(dd, oo)]) (by k_asm) ((news_blk [[_], [_]] [1] N1)) (fun F N => ?_)
    exact k dd oo _ 0 _ _ _ lo hd9 hf9 F N
end Mine

end
section
open PySem.Spec PyProof.V PySem PySem.W PySem.W.X PyProof.Rows PySem.Calls
namespace Mine
theorem c_readon {w : World} {p : Program} {loose : List Str} {mean : ExcName → Option Value} {mg mb : Str → Option Value} {A₀ : Around} {base h₀ : Heap} {outer : List Env} {cs : Scope} {L : Addr} {m : Str → Option Value} {s : Shared} {dp un : Nat} {gd : Option (List Code)} {cn : Str} {a : Addr} {ccd : Value} {cl : List (Str × Addr)} {rest : Led} {R : Result → Shared → Prop}
   {k : Mch} {text : Str} {line pos : Int} {tl tp : Tok} {push : List Value} {pn : Nat} {c1 c2 : Addr} {o1 o2 : Obj} {t1 : Tok} (hr : PySem.Challenge.rw_to0079_01 = PySem.Challenge.rw_to0079_01)
   (C : Ctx (Khp w.params) p loose mean mg mb A₀ base h₀ outer cs L m s dp 3 un 20) (N : News h₀ L s.heap (k.own w.params line tl push pn pos tp ++ tabLed c1 c2 o1 o2 ++ rest)) (hap : ∀ p ∈ rest, p.1 ∉ (k.own w.params line tl push pn pos tp ++ tabLed c1 c2 o1 o2 : Led).map (·.1)) (hk : Mch.Ok k text) (hk1 : k.c1 = c1) (k1 : codeHas o1 (Str.ofString "_law_machine.<locals>._law_read_on")) (hoff : Mch.Off k c1 c2)(hp0 : 0 ≤ pos) (hp1 : pos ≤ text.length) (hp2 : text.length ≤ 100)
   (kk : ∀ (tt tp' : Tok) h' tk', Fr h₀ L h' m → News h₀ L h' (k.own w.params line tl push pn (pos + Str.length (oneAt text pos)) tp' ++ tabLed c1 c2 o1 o2 ++ rest) → R (.ok (.ret (.str (oneAt text pos) tt))) {s with heap := h', toks := tk'}) :
   codeAny (model PySem.Challenge.pw_to0079_01 w) (ktrTop dp un gd cn cs L a ccd cl outer) (.call (.ref k.fr) ⟨[.int 1 t1], []⟩) R s := by
  revert hr C
  k_fill
  intro _ C
  have hin := @rfl _ (innerIn w.params 182)
  conv at hin => rhs; whnf
  have hroo : roObj w.params [(Str.ofString "text", k.ct), (Str.ofString "at", k.ca)] k.dc k.pm k.c1 k.ctv = fnMade (innerIn w.params 182).1 (Str.ofString "_law_machine.<locals>._law_read_on") (innerIn w.params 182).2.1 (innerIn w.params 182).2.2.1 (innerIn w.params 182).2.2.2 [(Str.ofString "text", k.ct), (Str.ofString "at", k.ca)] k.dc k.pm k.c1 k.ctv := rfl
  rw [hin] at hroo
  dsimp only at hroo
  dsimp only [Mch.own, tabLed] at N hap
  rw [hroo] at N hap
  walk_at "open"
  obtain ⟨vs1, q1, d1', d2'⟩ := k1
  walk_at "shut"
  have of1 := hoff.lt
  have of2 := hoff.one
  have of3 := hoff.two
  subst hk1
  refine' enterM (env := envX cn cs L a ccd cl) (cl := _) (M := _) (rest := rest) C.B C.F N ?hap C.T.nolimit ?hA ?hf C.hke ?ho ?hdd ?hcd ?room ?hb ?hloc ?_ ?hcell ?e1 ?e2 ?e3
  case hA => exact rfl
  case hf => exact rfl
  case ho => exact (N (k.fr, _) (by k_mem)).1
  case hdd => exact rfl
  case e1 => exact rfl
  case e2 => exact rfl
  case e3 => exact rfl
  case hcd => exact codeRec_news N (by k_mem) d1' d2'
  case room => (have := C.hd; show dp < recursionLimit; lia)
  case hb => exact BindsTo.of_eq rfl
  case hloc => exact locs rfl
  case hcell => decide
  case hap => exact hap
  have hd := C.hd
  have hu := C.hu
  have hke := C.hke
  have X := C.X
  have T := C.T
  clear C N
  intro g' L' h₁ FG' F' N' B' st fr l1
  (try walk_at "red")
  walk_at "fold"
  have X' := X.keeps st
  have T' := T.keeps st
  have hcode : CodeHd g' 181 177 := codeHd_of_K X' (by kernel_rfl!)
  clear X T st
  dsimp only [List.cons_append, List.nil_append] at N' l1
  have ord := hk.ord
  have oa8 := hk.all.1
  have oa7 := hk.all.2.1
  have oa6 := hk.all.2.2.1
  have oa5 := hk.all.2.2.2.1
  have oa4 := hk.all.2.2.2.2.1
  have oa3 := hk.all.2.2.2.2.2.1
  have oa2 := hk.all.2.2.2.2.2.2.1
  have oa1 := hk.all.2.2.2.2.2.2.2
  have hca := hk.ca
  have hct := hk.ct
  k_lt l1
  replace F' : Fr g' L' h₁ (fun z => if z = Str.ofString "size" then some (.int 1 t1) else none) := fr_congr F' (fun z => look1 z rfl)
  (try walk_at "fold")
  k_steps
  (try k_unfold); refine leaveM_ (M' := k.own w.params line tl push pn (pos + Str.length (oneAt text pos)) _ ++ tabLed k.c1 c2 o1 o2) (by k_asm) (by dsimp only [Mch.own, tabLed, List.cons_append, List.nil_append]; rw [hroo]; unfold oneAt; k_asm) (fun F N => ?_)
  exact kk _ _ _ _ F N
end Mine

end
section
open PySem.Spec PyProof.V PySem PySem.W PySem.W.X PyProof.Rows PySem.Calls
namespace Mine
theorem c_readchar {w : World} {p : Program} {loose : List Str} {mean : ExcName → Option Value} {mg mb : Str → Option Value} {A₀ : Around} {base h₀ : Heap} {outer : List Env} {cs : Scope} {L : Addr} {m : Str → Option Value} {s : Shared} {dp un : Nat} {gd : Option (List Code)} {cn : Str} {a : Addr} {ccd : Value} {cl : List (Str × Addr)} {rest : Led} {R : Result → Shared → Prop}
   {k : Mch} {text : Str} {line pos : Int} {tl tp : Tok} {push : List Value} {pn : Nat} {c1 c2 : Addr} {o1 o2 : Obj}  (hr : PySem.Challenge.rw_to0079_01 = PySem.Challenge.rw_to0079_01)
   (C : Ctx (Khp w.params) p loose mean mg mb A₀ base h₀ outer cs L m s dp 8 un 40) (N : News h₀ L s.heap (k.own w.params line tl push pn pos tp ++ tabLed c1 c2 o1 o2 ++ rest)) (hap : ∀ p ∈ rest, p.1 ∉ (k.own w.params line tl push pn pos tp ++ tabLed c1 c2 o1 o2 : Led).map (·.1)) (hk : Mch.Ok k text) (hk1 : k.c1 = c1) (k1 : codeHas o1 (Str.ofString "_law_machine.<locals>._law_read_on")) (hoff : Mch.Off k c1 c2)(hp0 : 0 ≤ pos) (hp1 : pos ≤ text.length) (hp2 : text.length ≤ 100) (hl : 0 ≤ line ∧ line ≤ 100)
   (kk : ∀ (tt tp' tl' : Tok) h' tk', Fr h₀ L h' m → News h₀ L h' (k.own w.params (if oneAt text pos = Str.ofString "\n" then line + 1 else line) tl' push pn (pos + Str.length (oneAt text pos)) tp' ++ tabLed c1 c2 o1 o2 ++ rest) → R (.ok (.ret (.str (oneAt text pos) tt))) {s with heap := h', toks := tk'}) :
   codeAny (model PySem.Challenge.pw_to0079_01 w) (ktrTop dp un gd cn cs L a ccd cl outer) (.call (.ref 78) ⟨[.ref k.x], []⟩) R s := by
  revert hr C
  k_fill
  intro _ C
  refine' enterK (M := k.own w.params line tl push pn pos tp ++ tabLed c1 c2 o1 o2) C N hap ?k6 ?k7 ?k9 ?kB ?_ ?c5 ?c2 ?c3 ?c4
  case k6 => k_is
  case k7 => k_is
  case k9 => exact BindsTo.of_eq rfl
  case kB => exact locs rfl
  case c5 => decide
  case c2 => exact rfl
  case c3 => exact rfl
  case c4 => exact rfl
  have hd := C.hd
  have hu := C.hu
  have hke := C.hke
  clear C N
  intro g' L' h₁ tk₁ FG' F' N' B' st X' T' fr l1 vk ak
  (try walk_at "red")
  walk_at "fold"
  dsimp only [Mch.own, tabLed, List.cons_append, List.nil_append] at N' l1
  have hcode : CodeHd g' 181 177 := codeHd_of_K X' (by kernel_rfl!)
  have ord := hk.ord
  have oa8 := hk.all.1
  have oa7 := hk.all.2.1
  have oa6 := hk.all.2.2.1
  have oa5 := hk.all.2.2.2.1
  have oa4 := hk.all.2.2.2.2.1
  have oa3 := hk.all.2.2.2.2.2.1
  have oa2 := hk.all.2.2.2.2.2.2.1
  have oa1 := hk.all.2.2.2.2.2.2.2
  have of1 := hoff.lt
  have of2 := hoff.one
  have of3 := hoff.two
  k_lt l1
  clear st
  replace F' : Fr g' L' h₁ (fun z => if z = Str.ofString "self" then some (.ref k.x) else none) := fr_congr F' (fun z => look1 z rfl)
  (try walk_at "fold")
  have hM : Halt "getMethod ref" := trivial
  k_steps
  refine go_ ?_
  clear hM
  rename News _ _ _ _ => kN
  refine' meth_fn (kN (Mch.fl _, _) ?k1).1 (kN (Mch.D _, _) ?k2).1 ?_
  case k1 => k_mem
  case k2 => k_mem
  intro tk'
  (try walk_at "red")
  k_steps
  refine wpAny_call (c_readon rfl ⟨B', (by k_asm), X', T', rfl, (room hd (by decide) : dp + 1 + 3 < recursionLimit), (room hu (by decide) : un + 3 + 20 < cLine)⟩ (rest := []) (show News g' L' _ (k.own w.params line tl push pn pos tp ++ tabLed c1 c2 o1 o2 ++ []) from (by dsimp only [Mch.own, tabLed, List.cons_append, List.nil_append, List.append_nil]; k_asm)) (fun _ h => nomatch h) hk hk1 k1 hoff hp0 hp1 hp2 (fun tt tp' h2 tk2 F2 N2 => ?_))
  dsimp only [Mch.own, tabLed, List.cons_append, List.nil_append, List.append_nil] at N2
  (try walk_at "red")
  (try walk_at "fold")
  k_steps
  · (try k_unfold); refine leaveM_ (M' := k.own w.params (line + 1) _ push pn (pos + Str.length (oneAt text pos)) tp' ++ tabLed c1 c2 o1 o2) (by k_asm) (by dsimp only [Mch.own, tabLed, List.cons_append, List.nil_append]; k_asm) (fun F N => ?_)
    have e : (if oneAt text pos = Str.ofString "\n" then line + 1 else line) = line + 1 := if_pos (eq_of_beq (by assumption))
    rw [← e] at N
    exact kk _ _ _ _ _ F N
  · (try k_unfold); refine leaveM_ (M' := k.own w.params line tl push pn (pos + Str.length (oneAt text pos)) tp' ++ tabLed c1 c2 o1 o2) (by k_asm) (by dsimp only [Mch.own, tabLed, List.cons_append, List.nil_append]; k_asm) (fun F N => ?_)
    have e : (if oneAt text pos = Str.ofString "\n" then line + 1 else line) = line := if_neg (fun q => by simp_all)
    refine kk _ tp' tl _ _ F ?_
    rw [e]
    exact N
end Mine

end
section
open PySem.Spec PyProof.V PySem PySem.W PySem.W.X PyProof.Rows PySem.Calls
namespace Mine
noncomputable def Good (c : Nat) : Prop := c ≠ 9 ∧ c ≠ 10 ∧ c ≠ 13 ∧ c ≠ 32 ∧ c ≠ 34 ∧ c ≠ 92
inductive Lx : List Nat → Nat → List Nat → List Nat → Prop
  | nl {l n w r} : Lx l n w r → Lx (10 :: l) (n + 1) w r
  | q {w r} : (∀ c ∈ w, Good c) → Lx (34 :: (w ++ 34 :: r)) 0 w r
  | u {c w r} : Good c → (∀ c ∈ w, Good c) → Lx (c :: (w ++ 10 :: r)) 1 (c :: w) r
  | fin : Lx [] 0 [] []
theorem drop_one {l : List Nat} {p c : Nat} {r : List Nat} (h : l.drop p = c :: r) : l[p]? = some c ∧ l.drop (p + 1) = r ∧ p < l.length := by
  have hp : p < l.length := by
    by_cases q : p < l.length
    · exact q
    · rw [List.drop_eq_nil_of_le (by lia)] at h; cases h
  refine ⟨?_, ?_, hp⟩
  · rw [List.drop_eq_getElem_cons hp] at h; rw [List.getElem?_eq_getElem hp]; exact congrArg some (List.cons.inj h).1
  · rw [List.drop_eq_getElem_cons hp] at h; exact (List.cons.inj h).2
theorem one_ne (c : Nat) : ((⟨#[c]⟩ : Str) == Str.ofString "") = false := by
  refine beq_eq_false_iff_ne.mpr fun q => ?_
  have := congrArg (fun s : Str => s.cps.size) q
  exact absurd this (by show ¬ (1 = (Str.ofString "").cps.size); decide +kernel)
theorem one_nl (c : Nat) : ((⟨#[c]⟩ : Str) = Str.ofString "\n") ↔ c = 10 := by
  have e : Str.ofString "\n" = ⟨#[10]⟩ := by decide +kernel
  rw [e]
  constructor
  · intro q; have := congrArg (fun s : Str => s.cps.toList) q; simpa using this
  · rintro rfl; rfl
theorem turn_c {w : World} {p : Program} {loose : List Str} {mean : ExcName → Option Value} {mg mb : Str → Option Value} {A₀ : Around} {base h₀ : Heap} {outer : List Env} {cs : Scope} {L : Addr} {m : Str → Option Value} {s : Shared} {dp un : Nat} {gd : Option (List Code)} {cn : Str} {a : Addr} {ccd : Value} {cl : List (Str × Addr)}
   {k : Mch} {text : Str} {line : Int} {tl tp : Tok} {pos : Nat} {push : List Value} {pn : Nat} {c1 c2 : Addr} {o1 o2 : Obj} {I q : Addr} {t : Tok} {Q : Option Value → Shared → Prop} {E : Value → Shared → Prop} (hr : PySem.Challenge.rw_to0079_01 = PySem.Challenge.rw_to0079_01)
   (C : Ctx (Khp w.params) p loose mean mg mb A₀ base h₀ outer cs L m s dp 9 un 50)
   (N : News h₀ L s.heap ((I, citer q t) :: (q, methodObj (.ref 78) (.ref k.x)) :: (k.own w.params line tl push pn pos tp ++ tabLed c1 c2 o1 o2)))
   (hI : I ∉ (k.own w.params line tl push pn pos tp ++ tabLed c1 c2 o1 o2 : Led).map (·.1)) (hq : q ∉ (k.own w.params line tl push pn pos tp ++ tabLed c1 c2 o1 o2 : Led).map (·.1)) (hIq : q ≠ I)
   (hk : Mch.Ok k text) (hk1 : k.c1 = c1) (k1 : codeHas o1 (Str.ofString "_law_machine.<locals>._law_read_on")) (hoff : Mch.Off k c1 c2) (hp1 : pos ≤ text.length) (hp2 : text.length ≤ 100) (hl : 0 ≤ line ∧ line ≤ 100)
   (kk : ∀ c l (tt tp' tl' : Tok) h' tk', text.cps.toList.drop pos = c :: l → Fr h₀ L h' m → News h₀ L h' ((I, citer q t) :: (q, methodObj (.ref 78) (.ref k.x)) :: (k.own w.params (if c = 10 then line + 1 else line) tl' push pn (pos + 1 : Nat) tp' ++ tabLed c1 c2 o1 o2)) →
      Q (some (.str ⟨#[c]⟩ tt)) { s with heap := h', toks := tk' })
   (ke : ∀ (tp' tl' : Tok) h' tk', text.cps.toList.drop pos = [] → Fr h₀ L h' m → News h₀ L h' ((q, methodObj (.ref 78) (.ref k.x)) :: (k.own w.params line tl' push pn pos tp' ++ tabLed c1 c2 o1 o2)) →
      Q none { s with heap := h', toks := tk' }) :
   wpAny (model prg w) (ktrTop dp un gd cn cs L a ccd cl outer) (pyNext (.ref I)) Q E s := by
  have hT := C.X
  revert hr hT
  k_fill
  intro _ hT
  have ho : ∃ fo d, h₀.get? 78 = some fo ∧ fo.data = .func d := by
    exact ⟨_, _, hT _ _ (by k_is), by exact rfl⟩
  walk_at "open"
  obtain ⟨fo, d, hf, hdd⟩ := ho
  walk_at "shut"
  refine next_c rfl C.F N (List.mem_cons_self ..) hf hdd ?_
  clear hT
  have C' : Ctx (Khp w.params) p loose mean mg mb A₀ base h₀ outer cs L m s dp 8 (un + 1) 40 := ⟨C.B, C.F, C.X, C.T, C.hke, by have := C.hd; lia, by have := C.hu; lia⟩
  have N' : News h₀ L s.heap (k.own w.params line tl push pn pos tp ++ tabLed c1 c2 o1 o2 ++ [(I, citer q t), (q, methodObj (.ref 78) (.ref k.x))]) := news_blk [[_], [_], _] [2, 0, 1] N
  refine c_readchar (un := un + 1) rfl C' N' (fun p hp => ?_) hk hk1 k1 hoff (by lia) (by lia) hp2 hl (fun tt tp' tl' h' tk' F2 N2 => ?_)
  · rcases List.mem_cons.mp hp with rfl | hp
    · exact hI
    · rcases List.mem_cons.mp hp with rfl | hp
      · exact hq
      · cases hp
  have N3 : News h₀ L h' ((I, citer q t) :: (q, methodObj (.ref 78) (.ref k.x)) :: (k.own w.params (if oneAt text pos = Str.ofString "\n" then line + 1 else line) tl' push pn (pos + Str.length (oneAt text pos)) tp' ++ tabLed c1 c2 o1 o2)) := news_blk [_, [_], [_]] [1, 2, 0] N2
  clear N2
  refine ⟨_, _, _, rfl, F2, N3, List.mem_cons_self .., ?_⟩
  rcases hc : text.cps.toList.drop pos with _ | ⟨c, l⟩
  · have hle : text.cps.toList.length ≤ pos := List.drop_eq_nil_iff.mp hc
    have e : pos = text.length := by
      have : text.cps.toList.length = text.length := by rw [Array.length_toList]; rfl
      lia
    subst e
    rw [oneAt_end] at N3 ⊢
    have e0 : (Str.length (⟨#[]⟩ : Str) : Int) = 0 := rfl
    rw [e0, Int.add_zero, if_neg (by decide +kernel)] at N3
    refine .inr ⟨by decide +kernel, ?_, ?_⟩
    · intro p hp e
      rw [e0, Int.add_zero, if_neg (by decide +kernel)] at hp
      rcases List.mem_cons.mp hp with rfl | hp
      · exact hIq e
      · have z := List.mem_map_of_mem (f := (·.1)) hp
        rw [e] at z
        exact hI z
    · intro h'' F3 N4
      rw [e0, Int.add_zero, if_neg (by decide +kernel)] at N4
      exact ke _ _ _ _ hc F3 N4
  · walk_at "open"
    obtain ⟨g1, g2, g3⟩ := drop_one hc
    walk_at "shut"
    have e := oneAt_lt g1
    rw [e] at N3 ⊢
    have e0 : (Str.length (⟨#[c]⟩ : Str) : Int) = 1 := rfl
    rw [e0] at N3
    refine .inl ⟨one_ne c, kk c l _ tp' tl' _ _ hc F2 ?_⟩
    simp only [one_nl] at N3
    exact N3
inductive JO (P : Params) (k : Mch) (text : Str) (c1 c2 : Addr) (o1 o2 : Obj) (line : Int) (ln pn : Nat) (wd rs : List Nat) (I q : Addr) (tq : Tok) (n : Nat) (m : Str → Option Value) (N : Led) : Prop
  | mk (ln' pos : Nat) (line' : Int) (tl tp tt : Tok) (x0 : Lx (text.cps.toList.drop pos) ln' wd rs) (x1 : n = (text.cps.toList.drop pos).length) (x2 : pos ≤ text.length) (x3 : line' + ln' = line + ln) (x4 : line ≤ line') (x5 : m (Str.ofString "token") = some (.str (Str.ofString "") tt)) (x6 : m (Str.ofString "fiter") = some (.ref I)) (x7 : m (Str.ofString "self") = some (.ref k.x)) (x8 : N = (I, citer q tq) :: (q, methodObj (.ref 78) (.ref k.x)) :: (k.own P line' tl [] pn pos tp ++ tabLed c1 c2 o1 o2)) : JO P k text c1 c2 o1 o2 line ln pn wd rs I q tq n m N
inductive JI (P : Params) (k : Mch) (text : Str) (c1 c2 : Addr) (o1 o2 : Obj) (line : Int) (pn : Nat) (e : Nat) (wd rs : List Nat) (I q : Addr) (tq : Tok) (n : Nat) (m : Str → Option Value) (N : Led) : Prop
  | mk (w1 w2 : List Nat) (pos : Nat) (tl tp tt : Tok) (x0 : wd = w1 ++ w2) (x1 : (∀ c ∈ w2, Good c)) (x2 : text.cps.toList.drop pos = w2 ++ e :: rs) (x3 : n = w2.length) (x4 : pos ≤ text.length) (x5 : m (Str.ofString "token") = some (.str ⟨w1.toArray⟩ tt)) (x6 : m (Str.ofString "fiter") = some (.ref I)) (x7 : m (Str.ofString "self") = some (.ref k.x)) (x8 : N = (I, citer q tq) :: (q, methodObj (.ref 78) (.ref k.x)) :: (k.own P line tl [] pn pos tp ++ tabLed c1 c2 o1 o2)) : JI P k text c1 c2 o1 o2 line pn e wd rs I q tq n m N
theorem good_ws {c : Nat} (h : Good c) : ¬ (Builtin.Str.occurrences (Str.ofString "\n\t\r ") ⟨#[c]⟩ 0 (Str.ofString "\n\t\r ").length 1).isEmpty = false := by
  have e : Str.ofString "\n\t\r " = ⟨#[10, 9, 13, 32]⟩ := by decide +kernel
  walk_at "open"
  obtain ⟨h1, h2, h3, h4, _, _⟩ := h
  walk_at "shut"
  rw [e, occ_nil_of_no _ _ 1 (fun i hi => ?_)]
  · decide
  have hi : i + 1 ≤ 4 := hi
  have z : i = 0 ∨ i = 1 ∨ i = 2 ∨ i = 3 := by lia
  rcases z with rfl | rfl | rfl | rfl
  · show ((#[10] : Array Nat) == #[c]) = false
    simp [Ne.symm h2]
  · show ((#[9] : Array Nat) == #[c]) = false
    simp [Ne.symm h1]
  · show ((#[13] : Array Nat) == #[c]) = false
    simp [Ne.symm h3]
  · show ((#[32] : Array Nat) == #[c]) = false
    simp [Ne.symm h4]
theorem one_lit {c d : Nat} {x : Str} (e : x = ⟨#[d]⟩) (h : c ≠ d) : ¬ ((⟨#[c]⟩ : Str) == x) = true := by
  rw [e]
  intro q
  have := congrArg (fun s : Str => s.cps.toList) (eq_of_beq q)
  exact h (by simpa using this)
theorem good_q {c : Nat} (h : Good c) : ¬ ((⟨#[c]⟩ : Str) == Str.ofString "\"") = true := one_lit (d := 34) (by decide +kernel) h.2.2.2.2.1
theorem good_b {c : Nat} (h : Good c) : ¬ ((⟨#[c]⟩ : Str) == Str.ofString "\\") = true := one_lit (d := 92) (by decide +kernel) h.2.2.2.2.2
theorem tok_app (w : List Nat) (c : Nat) : (⟨w.toArray⟩ : Str) ++ ⟨#[c]⟩ = ⟨(w ++ [c]).toArray⟩ := by
  show (⟨w.toArray ++ #[c]⟩ : Str) = _
  simp
theorem tok_nil : Str.ofString "" = ⟨([] : List Nat).toArray⟩ := by decide +kernel
theorem nl_ws : (Builtin.Str.occurrences (Str.ofString "\n\t\r ") ⟨#[10]⟩ 0 (Str.ofString "\n\t\r ").length 1).isEmpty = false := by decide +kernel
theorem qu_ws : (Builtin.Str.occurrences (Str.ofString "\n\t\r ") ⟨#[34]⟩ 0 (Str.ofString "\n\t\r ").length 1).isEmpty = true := by decide +kernel
end Mine
namespace Mine
inductive Lxs : List Nat → Nat → List (List Nat) → List Nat → Prop
  | nil {l} : Lxs l 0 [] l
  | cons {l n w r m ws r'} : Lx l n w r → Lxs r m ws r' → Lxs l (n + m) (w :: ws) r'
noncomputable def FoldsTo (S : Int → Bool) (D : List (PyData × PyData)) (fold : Nat → Option Nat) (c : Nat) : Prop :=
  (S c = true ∧ fold c = none) ∨ (S c = false ∧ ∃ l, fold c = some l ∧ ((lookup (.int c) D = some (.str ⟨#[l]⟩)) ∨ (lookup (.int c) D = none ∧ Txt.lower ⟨#[c]⟩ = ⟨#[l]⟩)))
end Mine

end
section
open PySem.Spec PyProof.V PySem PySem.W PySem.W.X PyProof.Rows PySem.Calls
namespace Mine
inductive JR (P : Params) (k : Mch) (text : Str) (c1 c2 : Addr) (o1 o2 : Obj) (line : Int) (ln pn : Nat) (ws : List (List Nat)) (rs : List Nat) (fold : Nat → Option Nat) (G : Addr) (i : Nat) (m : Str → Option Value) (N : Led) : Prop
  | mk (vs : List Value) (n pos ln' : Nat) (line' : Int) (tl tp : Tok) (x0 : StrsAre vs ((ws.take i).map fun wd => ⟨(wd.filterMap fold).toArray⟩)) (x1 : vs.length = i) (x2 : Lxs (text.cps.toList.drop pos) ln' (ws.drop i) rs) (x3 : pos ≤ text.length) (x4 : line' + ln' = line + ln) (x5 : line ≤ line') (x6 : m (Str.ofString "words") = some (.ref G)) (x7 : m (Str.ofString "machine") = some (.ref k.x)) (x8 : N = (G, W.listOf vs.toArray n) :: (k.own P line' tl [] pn pos tp ++ tabLed c1 c2 o1 o2)) : JR P k text c1 c2 o1 o2 line ln pn ws rs fold G i m N
theorem off1_of {I : Addr} : ∀ {l : Led}, (∀ p ∈ l, p.1 ≠ I) → LCg.Off1 I l
  | [], _ => trivial
  | _ :: _, h => ⟨h _ (List.mem_cons_self ..), off1_of fun p hp => h p (List.mem_cons_of_mem _ hp)⟩
theorem lxs_drop {l : List Nat} {n i : Nat} {ws : List (List Nat)} {rs : List Nat} (h : Lxs l n (ws.drop i) rs) (hi : i < ws.length) : ∃ n1 n2 r, n = n1 + n2 ∧ Lx l n1 ws[i] r ∧ Lxs r n2 (ws.drop (i + 1)) rs := by
  rw [List.drop_eq_getElem_cons hi] at h
  cases h with
  | cons h1 h2 => exact ⟨_, _, _, rfl, h1, h2⟩
end Mine
namespace Mine
theorem news_rot2 {h₀ h : Heap} {L : Addr} {a b : Addr × Obj} {l : Led} (N : News h₀ L h (a :: b :: l)) : News h₀ L h (l ++ [a, b]) := news_blk [[_], [_], _] [2, 0, 1] N
noncomputable def JW (base : Led) (fold : Nat → Option Nat) (wd : List Nat) (i : Nat) (ys : List Value) (nw : Led) : Prop :=
  Has base nw ∧ StrsAre ys (((wd.take i).filterMap fold).map fun l => ⟨#[l]⟩)
end Mine
namespace Mine
theorem lx_len {l : List Nat} {n : Nat} {w r : List Nat} (h : Lx l n w r) : w.length ≤ l.length := by
  induction h with
  | nl _ ih => simp only [List.length_cons]; lia
  | q _ => simp only [List.length_cons, List.length_append]; lia
  | u _ _ => simp only [List.length_cons, List.length_append]; lia
  | fin => exact Nat.le_refl _
theorem take_fm_none {wd : List Nat} {fold : Nat → Option Nat} {j c : Nat} (hc : wd[j]? = some c) (hf : fold c = none) : (wd.take (j + 1)).filterMap fold = (wd.take j).filterMap fold := by
  obtain ⟨hj, e⟩ := List.getElem?_eq_some_iff.mp hc
  rw [List.take_succ, hc, Option.toList_some, List.filterMap_append, List.filterMap_cons, hf]; simp
theorem take_fm_some {wd : List Nat} {fold : Nat → Option Nat} {j c l : Nat} (hc : wd[j]? = some c) (hf : fold c = some l) : (wd.take (j + 1)).filterMap fold = (wd.take j).filterMap fold ++ [l] := by
  rw [List.take_succ, hc, Option.toList_some, List.filterMap_append, List.filterMap_cons, hf]; simp
theorem strs_snoc {y : Str} {t : Tok} : ∀ {vs : List Value} {ys : List Str}, StrsAre vs ys → StrsAre (vs ++ [.str y t]) (ys ++ [y]) := fun h => by
  induction h with
  | nil => exact .cons _ _ .nil
  | cons _ _ _ ih => exact .cons _ _ ih
end Mine
namespace Mine
theorem join_flat' : ∀ xs : List Str, Str.join (Str.ofString "") xs = ⟨((xs.map fun x => x.cps.toList).flatten).toArray⟩
  | [] => by decide +kernel
  | [x] => by
    obtain ⟨c⟩ := x
    show (⟨c⟩ : Str) = _
    simp
  | x :: y :: r => by
    have ih := join_flat' (y :: r)
    show x ++ Str.ofString "" ++ Str.join (Str.ofString "") (y :: r) = _
    rw [ih, tok_nil]
    obtain ⟨c⟩ := x
    show (⟨(c ++ ([] : List Nat).toArray) ++ _⟩ : Str) = _
    simp
theorem join_flat (xs : List Str) : Txt.join (Str.ofString "") xs = ⟨((xs.map fun x => x.cps.toList).flatten).toArray⟩ := (StrLaws.glued_eq_join _ xs).trans (join_flat' xs)
theorem join_lst {w : World} {A : Around} {E : Value → Shared → Prop} {s : Shared} {h₀ : Heap} {L D : Addr} {news : Led} {ys : List Value} {n : Nat} {xs : List Str} {t : Tok} {Q : Value → Shared → Prop} (N : News h₀ L s.heap news) (hm : (D, W.listOf ys.toArray n) ∈ news) (hs : StrsAre ys xs)
    (hw : (xs.map (·.length)).sum + xs.length ≤ 1048576) (h : ∀ t' k, Q (.str ⟨((xs.map fun x => x.cps.toList).flatten).toArray⟩ t') { s with toks := k }) :
    wpAny (model prg w) A (call (.builtin "str.join") [.str (Str.ofString "") t, .ref D]) Q E s :=
  join_listW (items := ys.toArray) ⟨_, (N _ hm).1, rfl, n, rfl⟩ (by simpa using hs) (by decide +kernel) hw fun t' k => by rw [join_flat]; exact h t' k
theorem ones_weight (ls : List Nat) : ((ls.map fun l => (⟨#[l]⟩ : Str)).map (·.length)).sum + (ls.map fun l => (⟨#[l]⟩ : Str)).length = ls.length + ls.length := by
  induction ls with
  | nil => rfl
  | cons a l ih => simp only [List.map_cons, List.sum_cons, List.length_cons] at ih ⊢; show 1 + _ + _ = _; lia
theorem ones_flat (ls : List Nat) : ((ls.map fun l => (⟨#[l]⟩ : Str)).map fun x => x.cps.toList).flatten = ls := by
  induction ls with
  | nil => rfl
  | cons a l ih => simp only [List.map_cons, List.flatten_cons] at ih ⊢; rw [ih]; rfl
theorem join_ones {w : World} {A : Around} {E : Value → Shared → Prop} {s : Shared} {h₀ : Heap} {L D : Addr} {news : Led} {ys : List Value} {n : Nat} {ls : List Nat} {t : Tok} {Q : Value → Shared → Prop} (N : News h₀ L s.heap news) (hm : (D, W.listOf ys.toArray n) ∈ news) (hs : StrsAre ys (ls.map fun l => ⟨#[l]⟩))
    (hw : ls.length ≤ 1000) (h : ∀ t' k, Q (.str ⟨ls.toArray⟩ t') { s with toks := k }) :
    wpAny (model prg w) A (call (.builtin "str.join") [.str (Str.ofString "") t, .ref D]) Q E s :=
  join_lst N hm hs (by rw [ones_weight]; lia) fun t' k => by rw [ones_flat]; exact h t' k
end Mine
namespace Mine
theorem ne_keys {I : Addr} {l l' : Led} (e : l'.map (·.1) = l.map (·.1)) (h : ∀ p ∈ l, p.1 ≠ I) : ∀ p ∈ l', p.1 ≠ I := fun p hp q => by
  have z : p.1 ∈ l.map (·.1) := e ▸ List.mem_map_of_mem hp
  walk_at "open"
  obtain ⟨p', hp', e'⟩ := List.mem_map.mp z
  walk_at "shut"
  exact h p' hp' (e'.trans q)
end Mine
namespace Mine
end Mine

end
section
open PySem.Spec PyProof.V PySem PySem.W PySem.W.X PyProof.Rows PySem.Calls
namespace Mine
noncomputable def kv2 (i : Nat) (u v : Tok) : List (Int × Value) := if i = 0 then [(1, .int 3 u)] else [(1, .int 3 u), (2, .int 9 v)]
noncomputable def kd2 (i : Nat) : List (PyData × PyData) := if i = 0 then [(PyData.int 1, PyData.int 3)] else [(PyData.int 1, PyData.int 3), (PyData.int 2, PyData.int 9)]
inductive JWp (w : World) (dd DD : Addr) (ee : Nat) (uu vv t2 : Tok) (i : Nat) (m : Str → Option Value) (N : Led) : Prop
  | mk (oo : Obj) (u u' : Tok) (x0 : oo.IsDictOf (intKind PySem.Challenge.pw_to0079_01 w) (kv2 i u u')) (x1 : FlatPairs PyData.int (kv2 i u u') (kd2 i)) (x2 : m (Str.ofString "d") = some (.ref dd)) (x3 : m (Str.ofString "base") = some (.int 3 t2)) (x4 : m (Str.ofString "show") = some (.bool false)) (x5 : N = [(DD, W.listOf #[.int 1 uu, .int 2 vv] ee), (dd, oo)]) : JWp w dd DD ee uu vv t2 i m N
theorem c_pow2 {w : World} {p : Program} {loose : List Str} {mean : ExcName → Option Value} {mg mb : Str → Option Value} {A₀ : Around} {base h₀ : Heap} {outer : List Env} {cs : Scope} {L : Addr} {m : Str → Option Value} {s : Shared} {dp un : Nat} {gd : Option (List Code)} {cn : Str} {a : Addr} {ccd : Value} {cl : List (Str × Addr)} {rest : Led} {R : Result → Shared → Prop}
   {t1 t2 t3 : Tok} (hr : PySem.Challenge.rw_to0079_01 = PySem.Challenge.rw_to0079_01)
   (C : Ctx (Khp w.params) p loose mean mg mb A₀ base h₀ outer cs L m s dp 3 un 20) (N : News h₀ L s.heap rest) 
   (k : ∀ (d : Addr) (o : Obj) (u1 u2 : Tok) h' tk' d', (d == sysModules) = false → o.IsDictOf (intKind PySem.Challenge.pw_to0079_01 w) [(1, .int 3 u1), (2, .int 9 u2)] → FlatPairs PyData.int [(1, .int 3 u1), (2, .int 9 u2)] ([(PyData.int 1, PyData.int 3), (PyData.int 2, PyData.int 9)]) → Fr h₀ L h' m → News h₀ L h' ((d, o) :: rest) → R (.ok (.ret (.ref d))) {s with heap := h', toks := tk', drawn := d'}) :
   codeAny (model PySem.Challenge.pw_to0079_01 w) (ktrTop dp un gd cn cs L a ccd cl outer) (.call (.ref 22) ⟨[.int 4 t1, .int 3 t2, .int 1 t3], []⟩) R s := by
  revert hr C
  k_fill
  intro _ C
  refine' enterK (M := []) C N (fun _ _ h => nomatch h) ?k6 ?k7 ?k9 ?kB ?_ ?c5 ?c2 ?c3 ?c4
  case k6 => k_is
  case k7 => k_is
  case k9 => exact binds_K (C.X.keeps C.F.keep) rfl (by k_is) rfl rfl rfl
  case kB => exact locs rfl
  case c5 => decide
  case c2 => exact rfl
  case c3 => exact rfl
  case c4 => exact rfl
  have hd := C.hd
  have hu := C.hu
  have hke := C.hke
  clear C N
  intro g' L' h₁ tk₁ FG' F' N' B' st X' T' fr l1 vk ak
  (try walk_at "red")
  walk_at "fold"
  have h1M : Halt "pyIter ref" := trivial
  clear st
  replace F' : Fr g' L' h₁ (fun z => if z = Str.ofString "show" then some (.bool false) else if z = Str.ofString "more_than" then some (.int 1 t3) else if z = Str.ofString "base" then some (.int 3 t2) else if z = Str.ofString "w" then some (.int 4 t1) else none) := fr_congr F' (fun z => look1 z (look1 z (look1 z (look1 z rfl))))
  (try walk_at "fold")
  (try refine (let m : Str → Option Value := _; have F' : Fr _ _ _ m := ‹Fr _ _ _ _›; ?_))
  have p1M : Halt "call type:set nil nil" := trivial
  have p2M : Halt "call builtin:set.add" := trivial
  have p3M : Halt "truthy ref" := trivial
  have p4M : Halt "getMethod ref" := trivial
  have p5M : Halt "call builtin:set.pop" := trivial
  have p6M : Halt "call builtin:sorted" := trivial
  have p7M : Halt "call builtin:iter" := trivial
  have p8M : Halt "call builtin:next" := trivial
  repeat (k_steps; refine go_ ?_; first
    | (k_dflt (refine ksn_new (by k_asm) (by k_asm) ?_); intro d' h' F' N' l1 hs'; (try k_lt l1))
    | ((with_reducible show wpAny _ _ (call (Value.builtin "set.add") [Value.ref _, Value.int _ _]) _ _ _); k_dflt (first
      | (refine' ksn_add1 ?zF ?zN ?zU ?_; (case zF => k_asm); (case zN => k_asm); (case zU => k_updF))
      | (refine' ksn_add2 ?zF ?zN ?zU ?_; (case zF => k_asm); (case zN => k_asm); (case zU => k_updF))
      | (refine' ksn_add21 ?zF ?zN ?zU ?_; (case zF => k_asm); (case zN => k_asm); (case zU => k_updF))); intro h' F' N' hs'; (try dsimp only at N'); (try k_sweep))
    | (k_dflt (refine' ksn_truthy ?zN ?zm ?zs ?zn ?_; (case zN => k_asm); (case zm => k_mem); (case zs => k_asm); (case zn => decide)))
    | ((with_reducible show wpAny _ _ (getMethod (Value.ref _) (Str.ofString "pop") _) _ _ _); k_dflt (refine' ksn_popm ?zN ?zm ?zs ?_; (case zN => k_asm); (case zm => k_mem); (case zs => k_asm)))
    | (k_dflt (refine' ksn_pop ?zF ?zN ?zU ?zs ?_; (case zF => k_asm); (case zN => k_asm); (case zU => k_updF); (case zs => k_asm)); intro h' so' t' d' F' N' hs'; (try dsimp only at N'); (try k_sweep); (try walk_at "red"); try refine (let T : Nat := _; (?_ : wpAny _ _ _ _ _ (Shared.mk _ _ _ T _))))
    | (k_dflt (refine' sorted_one ?zF ?zN rfl ?zm ?_; (case zF => k_asm); (case zN => k_asm); (case zm => k_mem); intro DD ee uu h' tk' F' N' l1D); (try k_lt l1D))
    | (k_dflt (refine' sorted_two ?zF ?zN rfl ?zm ?_; (case zF => k_asm); (case zN => k_asm); (case zm => k_mem); intro DD ee uu vv h' tk' F' N' l1D); (try k_lt l1D))
    | (k_dflt (refine' ksn_iter ?zF ?zN ?zm ?_; (case zF => k_asm); (case zN => k_asm); (case zm => k_mem)); intro II h' F' N' l1I; (try k_lt l1I))
    | (k_dflt (refine' ksn_next ?zF ?zN ?zU ?zm ?zx ?_; (case zF => k_asm); (case zN => k_asm); (case zU => k_updF); (case zm => k_mem); (case zx => rfl)); intro h' F' N'; (try dsimp only at N'); (try k_sweep))
    | (k_dflt (refine' kse_method (knd := PySem.intKind _ _) ?zN ?zU ?zd ?zz ?_; (case zN => k_asm); (case zU => k_updF); (case zd => k_asm); (case zz => kse_small)))
    | (k_dflt (refine' kse_add (knd := PySem.intKind _ _) ?zF ?zN ?zU ?zd ?zz (intKind_is _ _ _ _) rfl ?_; (case zF => k_asm); (case zN => k_asm); (case zU => k_updF); (case zd => k_asm); (case zz => kse_small)); intro h' o' F' N' hs'; (try dsimp only at N'); (try k_sweep))
    ; (try walk_at "red"))
  k_steps
  refine go_ ?_
  rename_i dd _ _ lo _ _ _ _ l1d _ _ _ _ _ _ _ _ _ _ oo F9 N9 hd9 hf9
  refine it_rest (l := DD) (I := II) (vs := [.int 1 uu, .int 2 vv]) (k := ee) (i0 := 1) (n := 1) rfl (JWp w dd DD ee uu vv t2) rfl ?_ F9 (news := [(DD, W.listOf #[.int 1 uu, .int 2 vv] ee), (dd, oo)]) ((news_blk [[_], [_], [_], [_], [_], [_]] [0, 1, 2] N9)) ?_ ⟨oo, _, 0, hd9, hf9, rfl, rfl, rfl, rfl⟩ ?_ ?_
  · rintro i m' n' rq1
    walk_at "open"
    obtain ⟨_, _, _, _, _, _, _, _, rfl⟩ := rq1
    walk_at "shut"
    exact List.mem_cons_self ..
  · intro q hq
    revert q
    (refine fcons ?_ (fcons ?_ fnil)) <;> k_ne
  · rintro i v m₁ n₁ h tk oI hv rq1 hoI F1 N1
    walk_at "open"
    obtain ⟨o2, u, u', hd2, hf2, e1, e2, e3, rfl⟩ := rq1
    walk_at "shut"
    have hi0 : i = 0 := by
      have := (List.getElem?_eq_some_iff.mp hv).1
      simp only [List.length_cons, List.length_nil] at this
      lia
    subst hi0
    obtain rfl : Value.int 2 vv = v := by simpa using hv
    clear F9 N9 hd9 hf9
    dsimp only [kv2] at hd2 hf2
    have F2 := fr1 (fr1 (fr1 (fr1 F1 (a := Str.ofString "show") ((if_neg (by decide +kernel)).trans e3)) (a := Str.ofString "base") ((if_neg (by decide +kernel)).trans ((if_neg (by decide +kernel)).trans e2))) (a := Str.ofString "d") ((if_neg (by decide +kernel)).trans ((if_neg (by decide +kernel)).trans ((if_neg (by decide +kernel)).trans e1)))) (a := Str.ofString "this") ((if_neg (by decide +kernel)).trans ((if_neg (by decide +kernel)).trans ((if_neg (by decide +kernel)).trans (if_pos rfl))))
    clear F1 e1 e2 e3
    (try walk_at "fold")
    (try refine (let m : Str → Option Value := _; have F' : Fr _ _ _ m := ‹Fr _ _ _ _›; ?_))
    k_steps
    rename Fr _ _ _ _ => F3
    rename News _ _ _ _ => N3
    rename FlatPairs _ _ _ => hf3
    rename Obj.IsDictOf _ _ _ => hd3
    refine stepP_next F3 N3 (ne_keys (l := [(DD, W.listOf #[.int 1 uu, .int 2 vv] ee), (dd, o2)]) rfl hoI) ⟨_, _, _, hd3, hf3, rfl, rfl, rfl, rfl⟩
  · rintro h tk m₁ n₁ rq1 F1 N1
    walk_at "open"
    obtain ⟨o2, u, u', hd2, hf2, e1, e2, e3, rfl⟩ := rq1
    walk_at "shut"
    have F2 := fr1 F1 (a := Str.ofString "d") e1
    clear F9 N9
    (try walk_at "fold")
    (try refine (let m : Str → Option Value := _; have F' : Fr _ _ _ m := ‹Fr _ _ _ _›; ?_))
    k_steps
    (try k_unfold)
    refine leaveM_ (M' := [(dd, o2)]) (by k_asm) ((news_blk [[_], [_]] [1] N1)) (fun F N => ?_)
    exact k dd o2 _ _ _ _ _ lo hd2 hf2 F N
end Mine

end
section
open PySem.Spec PyProof.V PySem PySem.W PySem.W.X PyProof.Rows PySem.Calls
namespace Mine
noncomputable abbrev one (c : Nat) : Str := ⟨#[c]⟩
noncomputable def RGB : List Nat := [114, 103, 98]
noncomputable def LK : List (List Nat) := [[], [114], [103], [98], [114, 103], [114, 98], [103, 98], [114, 103, 98]]
noncomputable def idx (c : Nat) : Int := if c = 114 then 0 else if c = 103 then 1 else 2
theorem rgb_cases {c : Nat} (h : c ∈ RGB) : c = 114 ∨ c = 103 ∨ c = 98 := by simpa [RGB] using h
theorem in_likes' : (LK.all fun lk => RGB.all fun c => (Builtin.Str.occurrences ⟨lk.toArray⟩ ⟨#[c]⟩ 0 (⟨lk.toArray⟩ : Str).length 1).isEmpty == !lk.contains c) = true := by decide +kernel
theorem in_likes {lk : List Nat} {c : Nat} (hl : lk ∈ LK) (hc : c ∈ RGB) : (Builtin.Str.occurrences ⟨lk.toArray⟩ ⟨#[c]⟩ 0 (⟨lk.toArray⟩ : Str).length 1).isEmpty = !lk.contains c :=
  eq_of_beq (List.all_eq_true.mp (List.all_eq_true.mp in_likes' lk hl) c hc)
theorem rgb_index {w : World} {A : Around} {E : Value → Shared → Prop} {s : Shared} {c : Nat} {t u : Tok} {Q : Value → Shared → Prop} (hc : c ∈ RGB) (h : ∀ t' k, Q (.int (idx c) t') { s with toks := k }) :
    wpAny (model prg w) A (call (.builtin "str.index") [.str (Str.ofString "rgb") t, .str ⟨#[c]⟩ u]) Q E s := by
  rcases rgb_cases hc with rfl | rfl | rfl
  · exact PySem.SC.index (i := 0) (rest := []) (by decide +kernel) (h _ _)
  · exact PySem.SC.index (i := 1) (rest := []) (by decide +kernel) (h _ _)
  · exact PySem.SC.index (i := 2) (rest := []) (by decide +kernel) (h _ _)
theorem idx_bound (c : Nat) : 0 ≤ idx c ∧ idx c ≤ 2 := by unfold idx; split <;> (try split) <;> decide
noncomputable def taken (o : Option Nat) : Str := match o with | none => Str.ofString "" | some c => ⟨#[c]⟩
noncomputable def likedB (lk : List Nat) (c : Nat) : Bool := lk.contains c
noncomputable def counts (l : List Nat) : List Int := [(l.count 114 : Int), (l.count 103 : Int), (l.count 98 : Int)]
theorem counts_snoc {l : List Nat} {c : Nat} (hc : c ∈ RGB) : (counts l).set (idx c).toNat ((counts l).getD (idx c).toNat 0 + 1) = counts (l ++ [c]) := by
  rcases rgb_cases hc with rfl | rfl | rfl <;> simp [counts, idx, List.count_append]
inductive JS (P : Params) (k : Mch) (line pos : Int) (tl tp tlk : Tok) (names lk : List Nat) (RL : Addr) (i : Nat) (m : Str → Option Value) (N : Led) : Prop
  | mk (ps vs : List Value) (pn n : Nat) (tt : Tok) (x0 : StrsAre ps ((names.drop i ++ (names.take i).eraseP (likedB lk)).map one)) (x1 : IntsAre vs (counts (names.take i))) (x2 : m (Str.ofString "line") = some (.ref k.x)) (x3 : m (Str.ofString "likes") = some (.str ⟨lk.toArray⟩ tlk)) (x4 : m (Str.ofString "rooms") = some (.ref RL)) (x5 : m (Str.ofString "taken") = some (.str (taken ((names.take i).find? (likedB lk))) tt)) (x6 : N = (RL, W.listOf vs.toArray n) :: k.own P line tl ps pn pos tp) : JS P k line pos tl tp tlk names lk RL i m N
theorem range_ok' : ((List.range 40).all fun n => Builtin.Range.small 0 (n : Int) 1 && Builtin.Range.rangeSize 0 (n : Int) 1 == (n : Int)) = true := by decide +kernel
theorem range_ok {n : Nat} (h : n < 40) : Builtin.Range.small 0 (n : Int) 1 = true ∧ Builtin.Range.rangeSize 0 (n : Int) 1 = (n : Int) := by
  have := List.all_eq_true.mp range_ok' n (List.mem_range.mpr h)
  rw [Bool.and_eq_true] at this
  exact ⟨this.1, eq_of_beq this.2⟩
theorem seat_take {names lk : List Nat} {i c : Nat} (hi : names[i]? = some c) (hf : (names.take i).find? (likedB lk) = none) (hc : likedB lk c = true) :
    names.drop (i + 1) ++ (names.take i).eraseP (likedB lk) = names.drop (i + 1) ++ (names.take (i + 1)).eraseP (likedB lk) ∧ (names.take (i + 1)).find? (likedB lk) = some c := by
  have hn : ∀ x ∈ names.take i, ¬ likedB lk x = true := List.find?_eq_none.mp hf
  rw [List.take_succ, hi, Option.toList_some]
  refine ⟨?_, ?_⟩
  · rw [List.eraseP_append_right _ (fun b hb => by simpa using hn b hb), List.eraseP_cons_of_pos hc, List.append_nil, List.eraseP_of_forall_not hn]
  · rw [List.find?_append, hf, List.find?_cons, hc]; rfl
theorem seat_back {names lk : List Nat} {i c : Nat} (hi : names[i]? = some c) (h : (names.take i).find? (likedB lk) ≠ none ∨ likedB lk c = false) :
    (names.take (i + 1)).eraseP (likedB lk) = (names.take i).eraseP (likedB lk) ++ [c] ∧ (names.take (i + 1)).find? (likedB lk) = (names.take i).find? (likedB lk) := by
  rw [List.take_succ, hi, Option.toList_some]
  cases hf : (names.take i).find? (likedB lk) with
  | none =>
    have hc : likedB lk c = false := h.resolve_left (fun q => q hf)
    have hn : ∀ x ∈ names.take i, ¬ likedB lk x = true := List.find?_eq_none.mp hf
    refine ⟨?_, ?_⟩
    · rw [List.eraseP_append_right _ (fun b hb => by simpa using hn b hb), List.eraseP_cons_of_neg (by rw [hc]; decide), List.eraseP_nil, List.eraseP_of_forall_not hn]
    · rw [List.find?_append, hf, List.find?_cons, hc]; rfl
  | some d =>
    have hd := List.find?_some hf
    refine ⟨?_, ?_⟩
    · rw [List.eraseP_append_left hd _ (List.mem_of_find?_eq_some hf)]
    · rw [List.find?_append, hf]; rfl
end Mine
namespace Mine
theorem news_rot2' {h₀ h : Heap} {L : Addr} {a b : Addr × Obj} {l : Led} (N : News h₀ L h (l ++ [a, b])) : News h₀ L h (a :: b :: l) := news_blk [_, [_], [_]] [1, 2, 0] N
theorem strs_cons {x : Str} {xs : List Str} {vs : List Value} (h : StrsAre vs (x :: xs)) : ∃ t vs', vs = .str x t :: vs' ∧ StrsAre vs' xs := by
  cases h with
  | cons _ t h => exact ⟨t, _, rfl, h⟩
theorem strs_len {xs : List Str} {vs : List Value} (h : StrsAre vs xs) : vs.length = xs.length := by
  induction h with
  | nil => rfl
  | cons _ _ _ ih => simp [ih]
theorem liked_in {lk : List Nat} {c : Nat} (hl : lk ∈ LK) (hc : c ∈ RGB) (h : likedB lk c = true) : (Builtin.Str.occurrences ⟨lk.toArray⟩ ⟨#[c]⟩ 0 (⟨lk.toArray⟩ : Str).length 1).isEmpty = false := by
  rw [in_likes hl hc, show lk.contains c = true from h]; rfl
theorem liked_out {lk : List Nat} {c : Nat} (hl : lk ∈ LK) (hc : c ∈ RGB) (h : likedB lk c = false) : (Builtin.Str.occurrences ⟨lk.toArray⟩ ⟨#[c]⟩ 0 (⟨lk.toArray⟩ : Str).length 1).isEmpty = true := by
  rw [in_likes hl hc, show lk.contains c = false from h]; rfl
theorem take_next {names : List Nat} {i c : Nat} (h : names[i]? = some c) : names.take (i + 1) = names.take i ++ [c] := by rw [List.take_succ, h]; rfl
end Mine
namespace Mine
inductive JF (P : Params) (k : Mch) (line pos : Int) (tl tp : Tok) (names offs : List Nat) (os : List Value) (n0 : Nat) (O : Addr) (i : Nat) (m : Str → Option Value) (N : Led) : Prop
  | mk (ps : List Value) (pn : Nat) (x0 : StrsAre ps ((names.drop i ++ names.take i).map one)) (x1 : (∀ c ∈ names.take i, c ∉ offs)) (x2 : m (Str.ofString "line") = some (.ref k.x)) (x3 : m (Str.ofString "offered") = some (.ref O)) (x4 : N = (O, W.listOf os.toArray n0) :: k.own P line tl ps pn pos tp) : JF P k line pos tl tp names offs os n0 O i m N
noncomputable def firstOf (names offs : List Nat) : Option Nat := names.find? offs.contains
noncomputable def lineAfter (names offs : List Nat) : List Nat := (names.dropWhile fun c => !offs.contains c).tail ++ names.takeWhile fun c => !offs.contains c
theorem first_hit {names offs : List Nat} {i c : Nat} (hi : names[i]? = some c) (hn : ∀ x ∈ names.take i, x ∉ offs) (hc : c ∈ offs) : firstOf names offs = some c ∧ lineAfter names offs = names.drop (i + 1) ++ names.take i := by
  have hlt : i < names.length := (List.getElem?_eq_some_iff.mp hi).1
  have e : names = names.take i ++ c :: names.drop (i + 1) := by
    conv => lhs; rw [← List.take_append_drop i names, List.drop_eq_getElem?_toList_append, hi]
    rfl
  have hp : ∀ x ∈ names.take i, (!offs.contains x) = true := fun x hx => by simp [hn x hx]
  have hq : (!offs.contains c) = false := by simp [hc]
  refine ⟨?_, ?_⟩
  · unfold firstOf
    rw [e, List.find?_append, List.find?_eq_none.mpr (fun x hx => by simp [hn x hx]), List.find?_cons]
    simp [hc]
  · unfold lineAfter
    have e1 : names.dropWhile (fun c => !offs.contains c) = c :: names.drop (i + 1) := by
      conv => lhs; rw [e, List.dropWhile_append_of_pos hp, List.dropWhile_cons, hq]
      rfl
    have e2 : names.takeWhile (fun c => !offs.contains c) = names.take i := by
      conv => lhs; rw [e, List.takeWhile_append_of_pos hp, List.takeWhile_cons, hq]
      simp
    rw [e1, e2]; rfl
theorem first_miss {names offs : List Nat} (hn : ∀ x ∈ names, x ∉ offs) : firstOf names offs = none ∧ lineAfter names offs = names := by
  have hp : ∀ x ∈ names, (!offs.contains x) = true := fun x hx => by simp [hn x hx]
  refine ⟨List.find?_eq_none.mpr (fun x hx => by simp [hn x hx]), ?_⟩
  unfold lineAfter
  have : ∀ l : List Nat, (∀ x ∈ l, (!offs.contains x) = true) → l.dropWhile (fun c => !offs.contains c) = [] ∧ l.takeWhile (fun c => !offs.contains c) = l := by
    intro l
    induction l with
    | nil => exact fun _ => ⟨rfl, rfl⟩
    | cons a l ih =>
      intro h
      have h1 := h a (List.mem_cons_self ..)
      have h2 := ih fun x hx => h x (List.mem_cons_of_mem _ hx)
      rw [List.dropWhile_cons, List.takeWhile_cons, h1]
      refine ⟨h2.1, ?_⟩
      show a :: l.takeWhile (fun c => !offs.contains c) = a :: l
      rw [h2.2]
  rw [(this names hp).1, (this names hp).2]; rfl
end Mine
namespace Mine
theorem one_eq (a b : Nat) : (one a == one b) = (a == b) := by
  by_cases h : a = b
  · subst h; simp
  · rw [beq_eq_false_iff_ne.mpr h, beq_eq_false_iff_ne.mpr]
    intro q
    have := congrArg (fun s : Str => s.cps.toList) q
    exact h (by simpa using this)
theorem any_one {offs : List Nat} {c : Nat} : ((offs.map one).any fun x => x == one c) = offs.contains c := by
  induction offs with
  | nil => rfl
  | cons a l ih => rw [List.map_cons, List.any_cons, ih, one_eq, List.contains_cons, Bool.beq_comm]
end Mine

end
section
open PySem.Spec PyProof.V PySem PySem.W PySem.W.X PyProof.Rows PySem.Calls
namespace Mine
section
variable {prog : Program} {w : World} {A : Around} {E : Value → Shared → Prop} {s : Shared} {env : Env} {g : Heap} {x : Str} {body : List Stmt} {Q : Flow → Shared → Prop} {m : Str → Option Value} {news : Led}
theorem it_str {y : Str} {t : Tok} (hh : A.handled = none) (J : Nat → (Str → Option Value) → Led → Prop)
    (F : Fr g env.locals s.heap m) (N : News g env.locals s.heap news) (h0 : J 0 m news)
    (step : ∀ I i v m₁ news₁ h tk oI, i < y.cps.size → SignAt y i v → J i m₁ news₁ → (∀ p ∈ news₁, p.1 ≠ I) → Fr g env.locals h (fun z => if z = x then some v else m₁ z) → News g env.locals h ((I, oI) :: news₁) →
      wpAny (model prog w) A (execs body env) (StepP g env.locals I oI (J (i + 1)) { s with heap := h, toks := tk } Q) E { s with heap := h, toks := tk })
    (done : ∀ h tk m₁ news₁, J y.cps.size m₁ news₁ → Fr g env.locals h m₁ → News g env.locals h news₁ → Q .next { s with heap := h, toks := tk }) :
    wpAny (model prog w) A (pyIter (.str y t)) (fun it s₂ => LoopAtV prog w A g env x body Q E it s₂) E s := by
  refine wpAny_pyIter_strU ?_
  walk_at "open"
  obtain ⟨St, W, st0, stI, stK⟩ := str_walks (prog := prog) (w := w) hh s.heap.objs.size y t
  walk_at "shut"
  refine loop_on (ext := []) (s := { s with heap := s.heap.push _ }) W (fresh_none F) (fresh_ne F) (fun b hb => nomatch hb) stI J (fun b hb => nomatch hb)
    (st0 _ (Heap.get?_push_size _ rfl)) (F.push _) (fun p hp => ⟨Heap.get?_push_of_some _ (N p hp).1, (N p hp).2⟩) (fun p hp => Nat.ne_of_lt (Heap.lt_size (N p hp).1)) h0
    (fun i v m₁ news₁ h tk oI hi hP hJ hn F₁ N₁ => step _ i v m₁ news₁ h tk oI hi hP hJ hn F₁ N₁) (fun h tk m₁ news₁ hJ F₁ N₁ => done h tk m₁ news₁ hJ F₁ N₁)
end
noncomputable def rep (b : Nat) : List Nat := (List.replicate b RGB).flatten
theorem rep_succ (b : Nat) : rep (b + 1) = rep b ++ RGB := by
  unfold rep
  rw [List.replicate_succ', List.flatten_append]
  simp
structure DS where
  names : List Nat
  earned : List Int
  kept : List Int
deriving DecidableEq
noncomputable def price (b room : Nat) : Int := (b : Int) ^ room * ((b : Int) + 1) ^ (b - room)
noncomputable def dstep (b : Nat) (whole : Int) (st : DS) (lk : List Nat) : DS :=
  match st.names.find? (likedB lk) with
  | none => ⟨st.names, st.earned, st.kept ++ [0]⟩
  | some c => ⟨st.names.eraseP (likedB lk), st.earned.set (idx c).toNat (st.earned.getD (idx c).toNat 0 + price b (st.names.count c)), st.kept ++ [whole - price b (st.names.count c)]⟩
noncomputable def dinner (b : Nat) (whole : Int) (lks : List (List Nat)) : DS := lks.foldl (dstep b whole) ⟨rep b, [0, 0, 0], []⟩
noncomputable def likedCounts (names lk : List Nat) : List Int := RGB.map fun c => if likedB lk c then (names.count c : Int) else 0
noncomputable def drops : List Nat → Nat → Nat → List Nat
  | l, c, n => match n with
    | 0 => l
    | n + 1 => drops (l.erase c) c n
noncomputable def reach (b : Nat) : List (List Nat) := (List.range (b + 1)).flatMap fun x => (List.range (b + 1)).flatMap fun y => (List.range (b + 1)).map fun z => drops (drops (drops (rep b) 114 x) 103 y) 98 z
noncomputable def roomOf (names lk : List Nat) : Nat := match names.find? (likedB lk) with
  | none => 0
  | some c => names.count c
theorem reach_ok' : ([1, 2].all fun b => (reach b).contains (rep b) && (reach b).all fun names => names.length ≤ 6 && names.all RGB.contains && LK.all fun lk => (reach b).contains (names.eraseP (likedB lk)) &&
    ((max (max ((likedCounts names lk).getD 0 0) ((likedCounts names lk).getD 1 0)) ((likedCounts names lk).getD 2 0)) == (roomOf names lk : Int)) && (roomOf names lk ≤ b) && ((names.find? (likedB lk)).isNone || (1 ≤ roomOf names lk))) = true := by decide +kernel
theorem reach_start {b : Nat} (hb : b = 1 ∨ b = 2) : rep b ∈ reach b := by
  have h := List.all_eq_true.mp reach_ok' b (by rcases hb with rfl | rfl <;> simp)
  rw [Bool.and_eq_true] at h
  simpa using h.1
theorem reach_ok {b : Nat} {names lk : List Nat} (hb : b = 1 ∨ b = 2) (hn : names ∈ reach b) (hl : lk ∈ LK) :
    names.length ≤ 6 ∧ (∀ c ∈ names, c ∈ RGB) ∧ names.eraseP (likedB lk) ∈ reach b ∧ max (max ((likedCounts names lk).getD 0 0) ((likedCounts names lk).getD 1 0)) ((likedCounts names lk).getD 2 0) = (roomOf names lk : Int) ∧ roomOf names lk ≤ b ∧ (∀ c, names.find? (likedB lk) = some c → 1 ≤ roomOf names lk) := by
  have h := List.all_eq_true.mp reach_ok' b (by rcases hb with rfl | rfl <;> simp)
  rw [Bool.and_eq_true] at h
  have h1 := List.all_eq_true.mp h.2 names hn
  simp only [Bool.and_eq_true, decide_eq_true_eq] at h1
  walk_at "open"
  obtain ⟨⟨h2, h3⟩, h4⟩ := h1
  walk_at "shut"
  have h5 := List.all_eq_true.mp h4 lk hl
  simp only [Bool.and_eq_true, decide_eq_true_eq, beq_iff_eq, Bool.or_eq_true] at h5
  walk_at "open"
  obtain ⟨⟨⟨h6, h7⟩, h8⟩, h9⟩ := h5
  walk_at "shut"
  refine ⟨h2, fun c hc => by simpa using List.all_eq_true.mp h3 c hc, by simpa using h6, h7, h8, fun c e => ?_⟩
  rcases h9 with h9 | h9
  · rw [e] at h9; exact nomatch h9
  · exact h9
theorem own_off {k : Mch} {P : Params} {line line' pos pos' : Int} {tl tl' tp tp' : Tok} {ps ps' : List Value} {pn pn' : Nat} {I : Addr} {r : Led} (h : ∀ p ∈ k.own P line tl ps pn pos tp ++ r, p.1 ≠ I) : I ∉ (k.own P line' tl' ps' pn' pos' tp').map (·.1) := fun q => by
  have e : (k.own P line' tl' ps' pn' pos' tp').map (·.1) = (k.own P line tl ps pn pos tp).map (·.1) := rfl
  rw [e] at q
  walk_at "open"
  obtain ⟨x, hx, hxe⟩ := List.mem_map.mp q
  walk_at "shut"
  exact h x (List.mem_append_left _ hx) hxe
inductive JP (P : Params) (k : Mch) (tl tp : Tok) (nm : Nat → List Nat) (rest : Led) (b : Nat) (whole : Int) (tb tw : Tok) (G : Addr) (i : Nat) (m : Str → Option Value) (N : Led) : Prop
  | mk (ps : List Value) (pn : Nat) (x0 : StrsAre ps ((nm i).map one)) (x1 : m (Str.ofString "line") = some (.ref k.x)) (x2 : m (Str.ofString "b") = some (.int (b : Nat) tb)) (x3 : m (Str.ofString "whole") = some (.int whole tw)) (x4 : m (Str.ofString "guests") = some (.ref G)) (x5 : N = k.own P 1 tl ps pn 0 tp ++ rest) : JP P k tl tp nm rest b whole tb tw G i m N
theorem rgb_sign {j : Nat} {v : Value} (h : SignAt (Str.ofString "rgb") j v) : ∃ c u, RGB[j]? = some c ∧ v = .str ⟨#[c]⟩ u := by
  walk_at "open"
  obtain ⟨c, u, h1, h2⟩ := h
  walk_at "shut"
  refine ⟨c, u, ?_, h2⟩
  rw [← h1, ← Array.getElem?_toList]
  rfl
theorem rep_len (b : Nat) : (rep b).length = 3 * b := by
  induction b with
  | zero => rfl
  | succ n ih => rw [rep_succ, List.length_append, ih]; show _ + 3 = _; lia
theorem take_len {l : List Nat} {j : Nat} : (l.take j).length ≤ l.length := by rw [List.length_take]; lia
theorem news_back {h₀ h : Heap} {L : Addr} {a b l : Led} (N : News h₀ L h (a ++ (b ++ l))) : News h₀ L h (b ++ (l ++ a)) := news_blk [_, _, _] [1, 2, 0] N
theorem news_fore {h₀ h : Heap} {L : Addr} {a b l : Led} (N : News h₀ L h (b ++ (l ++ a))) : News h₀ L h (a ++ (b ++ l)) := news_blk [_, _, _] [2, 0, 1] N
noncomputable def dinerAt (b : Nat) (whole : Int) (lks : List (List Nat)) (i : Nat) : DS := (lks.take i).foldl (dstep b whole) ⟨rep b, [0, 0, 0], []⟩
theorem dinerAt_succ {b : Nat} {whole : Int} {lks : List (List Nat)} {i : Nat} {lk : List Nat} (h : lks[i]? = some lk) : dinerAt b whole lks (i + 1) = dstep b whole (dinerAt b whole lks i) lk := by
  unfold dinerAt
  rw [List.take_succ, h, Option.toList_some, List.foldl_append]
  rfl
theorem dinerAt_all {b : Nat} {whole : Int} {lks : List (List Nat)} : dinerAt b whole lks lks.length = dinner b whole lks := by unfold dinerAt; rw [List.take_length]; rfl
inductive JG (P : Params) (k : Mch) (tl tp : Tok) (b : Nat) (whole : Int) (tb tw : Tok) (lks : List (List Nat)) (gs : List Value) (n0 : Nat) (G RC EL KL FL : Addr) (TL : Led) (i : Nat) (m : Str → Option Value) (N : Led) : Prop
  | mk (e0 e1 e2 : Int) (ps ve vk : List Value) (pn ne nk : Nat) (tf : Tok) (oc : Obj) (ov : Option Value) (x0 : (dinerAt b whole lks i).names ∈ reach b) (x1 : (dinerAt b whole lks i).earned = [e0, e1, e2]) (x2 : StrsAre ps ((dinerAt b whole lks i).names.map one)) (x3 : IntsAre ve [e0, e1, e2]) (x4 : IntsAre vk (dinerAt b whole lks i).kept) (x5 : oc.data = .cell ov) (x6 : m (Str.ofString "line") = some (.ref k.x)) (x7 : m (Str.ofString "b") = some (.int (b : Nat) tb)) (x8 : m (Str.ofString "whole") = some (.int whole tw)) (x9 : m (Str.ofString "free") = some (.int ((dinerAt b whole lks i).names.length : Nat) tf)) (x10 : m (Str.ofString "earned") = some (.ref EL)) (x11 : m (Str.ofString "kept") = some (.ref KL)) (x12 : m (Str.ofString "faults") = some (.ref FL)) (x13 : N = (EL, W.listOf ve.toArray ne) :: (KL, W.listOf vk.toArray nk) :: (FL, W.listOf #[] 0) :: (RC, oc) :: (G, W.listOf gs.toArray n0) :: (k.own P 1 tl ps pn 0 tp ++ TL)) : JG P k tl tp b whole tb tw lks gs n0 G RC EL KL FL TL i m N
theorem JG.of {P : Params} {k : Mch} {tl tp : Tok} {b : Nat} {whole : Int} {tb tw : Tok} {lks : List (List Nat)} {gs : List Value} {n0 : Nat} {G RC EL KL FL : Addr} {TL : Led} {i : Nat} {m : Str → Option Value} {N : Led} {st : DS} (hst : dinerAt b whole lks i = st) (e0 e1 e2 : Int) (ps ve vk : List Value) (pn ne nk : Nat) (tf : Tok) (oc : Obj) (ov : Option Value) (x0 : st.names ∈ reach b) (x1 : st.earned = [e0, e1, e2]) (x2 : StrsAre ps (st.names.map one)) (x3 : IntsAre ve [e0, e1, e2]) (x4 : IntsAre vk st.kept) (x5 : oc.data = .cell ov) (x6 : m (Str.ofString "line") = some (.ref k.x)) (x7 : m (Str.ofString "b") = some (.int (b : Nat) tb)) (x8 : m (Str.ofString "whole") = some (.int whole tw)) (x9 : m (Str.ofString "free") = some (.int (st.names.length : Nat) tf)) (x10 : m (Str.ofString "earned") = some (.ref EL)) (x11 : m (Str.ofString "kept") = some (.ref KL)) (x12 : m (Str.ofString "faults") = some (.ref FL)) (x13 : N = (EL, W.listOf ve.toArray ne) :: (KL, W.listOf vk.toArray nk) :: (FL, W.listOf #[] 0) :: (RC, oc) :: (G, W.listOf gs.toArray n0) :: (k.own P 1 tl ps pn 0 tp ++ TL)) : JG P k tl tp b whole tb tw lks gs n0 G RC EL KL FL TL i m N := by
  subst hst
  exact ⟨e0, e1, e2, ps, ve, vk, pn, ne, nk, tf, oc, ov, x0, x1, x2, x3, x4, x5, x6, x7, x8, x9, x10, x11, x12, x13⟩
theorem news_din {h₀ h : Heap} {L : Addr} {a b c d e f : Addr × Obj} {l t : Led} (N : News h₀ L h (a :: b :: c :: (l ++ ([d, e, f] ++ t)))) : News h₀ L h (e :: c :: b :: a :: d :: f :: (l ++ t)) := news_blk [[_], [_], [_], _, [_], [_], [_], _] [5, 2, 1, 0, 4, 6, 3, 7] N
theorem strs_at {vs : List Value} {ns : List Str} (h : StrsAre vs ns) : ∀ {j : Nat} {v : Value}, vs[j]? = some v → ∃ m t, v = .str m t ∧ ns[j]? = some m := by
  induction h with
  | nil => intro j v e; exact nomatch e
  | cons x t h ih =>
    intro j v e
    cases j with
    | zero => cases e; exact ⟨_, _, rfl, rfl⟩
    | succ j => exact ih e
theorem guest_at {vs : List Value} {lks : List (List Nat)} (h : StrsAre vs (lks.map fun l => ⟨l.toArray⟩)) {j : Nat} {v : Value} (e : vs[j]? = some v) : ∃ lk, lks[j]? = some lk ∧ ∃ t, v = .str ⟨lk.toArray⟩ t := by
  walk_at "open"
  obtain ⟨m, t, rfl, h2⟩ := strs_at h e
  walk_at "shut"
  rw [List.getElem?_map] at h2
  cases hl : lks[j]? with
  | none => rw [hl] at h2; exact nomatch h2
  | some lk => rw [hl] at h2; cases h2; exact ⟨lk, rfl, t, rfl⟩
theorem news_seat {h₀ h : Heap} {L : Addr} {a b c d e f g i j : Addr × Obj} {l t : Led} (N : News h₀ L h ([a, b] ++ l ++ ([c, d, e, f, g, i, j] ++ t))) : News h₀ L h (i :: a :: b :: c :: d :: e :: f :: g :: j :: (l ++ t)) := news_blk [[_], [_], _, [_], [_], [_], [_], [_], [_], [_], _] [8, 0, 1, 3, 4, 5, 6, 7, 9, 2, 10] N
theorem store_cell {M : Model} {A : Around} {E : Value → Shared → Prop} {s : Shared} {h₀ : Heap} {L : Addr} {m : Str → Option Value} {env : Env} {x : Str} {v : Value} {Q : Unit → Shared → Prop} {news : Led} {c : Addr} {o : Obj} {v₀ : Option Value}
    (F : Fr h₀ L s.heap m) (N : News h₀ L s.heap ((c, o) :: news)) (hc : env.cells.lookup x = some c) (hd : o.data = .cell v₀) (hn : ∀ p ∈ news, p.1 ≠ c)
    (h : ∀ h' o', Fr h₀ L h' m → News h₀ L h' ((c, o') :: news) → o'.data = .cell (some v) → Q () { s with heap := h' })
    (hk : env.scope.kind = .function) (hx : env.kindOf x = some .cell) : wpAny M A (storeName env x v) Q E s := by
  have hmem := N (c, o) (List.mem_cons_self ..)
  refine wpAny_storeName_cell hk hx hc ⟨o, hmem.1, hd⟩ fun h' hv hs => ?_
  walk_at "open"
  obtain ⟨o', ho', hd'⟩ := hv
  walk_at "shut"
  refine h h' o' ⟨F.ns.sameBut hs (Ne.symm hmem.2.1), fun b ob e => (hs.2 b (fun q => ?_)).trans (F.keep b ob e), F.above⟩ (fun p hp => ?_) hd'
  · rw [q, hmem.2.2] at e; cases e
  · rcases List.mem_cons.mp hp with rfl | hp
    · exact ⟨ho', hmem.2⟩
    · have z := N p (List.mem_cons_of_mem _ hp)
      exact ⟨hs.extBut _ _ (hn p hp) z.1, z.2⟩
theorem ne_cell {h₀ h : Heap} {L : Addr} {news : Led} {a c : Addr} {oa oc : Obj} {xs : Array Value} {n : Nat} {v : Option Value} (N : News h₀ L h news) (ha : (a, oa) ∈ news) (hc : (c, oc) ∈ news) (e : oa.data = .seq xs n) (f : oc.data = .cell v) : a ≠ c := fun q => by
  have h1 := (N _ ha).1
  have h2 := (N _ hc).1
  dsimp only at h1 h2
  rw [q, h2] at h1
  cases h1
  rw [e] at f
  cases f
noncomputable def JL (names lk : List Nat) (base : Led) (i : Nat) (ys : List Value) (nw : Led) : Prop := Has base nw ∧ IntsAre ys ((likedCounts names lk).take i)
theorem ints_cons {x : Int} {xs : List Int} {vs : List Value} (h : IntsAre vs (x :: xs)) : ∃ t vs', vs = .int x t :: vs' ∧ IntsAre vs' xs := by
  cases h with
  | cons _ t h => exact ⟨t, _, rfl, h⟩
theorem item_rgb {j : Nat} (h : j < 3) : Txt.item (Str.ofString "rgb") (0 + (j : Int)) = ⟨#[RGB.getD j 0]⟩ ∧ RGB.getD j 0 ∈ RGB := by
  rcases (by lia : j = 0 ∨ j = 1 ∨ j = 2) with rfl | rfl | rfl <;> exact ⟨by decide +kernel, by decide⟩
theorem liked_snoc {names lk : List Nat} {j : Nat} (h : j < 3) : (likedCounts names lk).take (j + 1) = (likedCounts names lk).take j ++ [if likedB lk (RGB.getD j 0) then (names.count (RGB.getD j 0) : Int) else 0] := by
  rcases (by lia : j = 0 ∨ j = 1 ∨ j = 2) with rfl | rfl | rfl <;> rfl
theorem liked_no {names lk : List Nat} {j : Nat} (hl : lk ∈ LK) (h : j < 3) (hz : (Builtin.Str.occurrences ⟨lk.toArray⟩ (Txt.item (Str.ofString "rgb") (0 + (j : Int))) 0 (⟨lk.toArray⟩ : Str).length 1).isEmpty = true) :
    (likedCounts names lk).take (j + 1) = (likedCounts names lk).take j ++ [0] := by
  rw [(item_rgb h).1, in_likes hl (item_rgb h).2] at hz
  have e : likedB lk (RGB.getD j 0) = false := by simpa [likedB] using hz
  rw [liked_snoc h, e]; rfl
theorem liked_yes {names lk : List Nat} {j : Nat} (hl : lk ∈ LK) (h : j < 3) (hz : (Builtin.Str.occurrences ⟨lk.toArray⟩ (Txt.item (Str.ofString "rgb") (0 + (j : Int))) 0 (⟨lk.toArray⟩ : Str).length 1).isEmpty = false) :
    (likedCounts names lk).take (j + 1) = (likedCounts names lk).take j ++ [([(names.count 114 : Int), (names.count 103 : Int), (names.count 98 : Int)] : List Int).getD (0 + (j : Int)).toNat 0] := by
  rw [(item_rgb h).1, in_likes hl (item_rgb h).2] at hz
  have e : likedB lk (RGB.getD j 0) = true := by simpa [likedB] using hz
  rw [liked_snoc h, e]
  rcases (by lia : j = 0 ∨ j = 1 ∨ j = 2) with rfl | rfl | rfl <;> rfl
theorem liked_form (names lk : List Nat) : ∃ xr xg xb : Int, likedCounts names lk = [xr, xg, xb] ∧ 0 ≤ xr ∧ 0 ≤ xg ∧ 0 ≤ xb := by
  refine ⟨_, _, _, rfl, ?_, ?_, ?_⟩ <;> (dsimp only; split <;> lia)
theorem counts_at (names : List Nat) {c : Nat} (hc : c ∈ RGB) : ([(names.count 114 : Int), (names.count 103 : Int), (names.count 98 : Int)] : List Int).getD (idx c).toNat 0 = (names.count c : Int) := by
  rcases rgb_cases hc with rfl | rfl | rfl <;> rfl
theorem news_dine {h₀ h : Heap} {L : Addr} {x a b c d e f g i j : Addr × Obj} {l : Led} (N : News h₀ L h (x :: a :: b :: c :: d :: e :: f :: g :: i :: j :: l)) : News h₀ L h (x :: c :: a :: f :: g :: d :: e :: i :: j :: l) := news_blk [[_], [_], [_], [_], [_], [_], [_], [_], [_], [_], _] [0, 3, 1, 6, 7, 4, 5, 8, 9, 10] N
theorem news_tl2 {h₀ h : Heap} {L : Addr} {a b : Addr × Obj} {l : Led} (N : News h₀ L h (a :: b :: l)) : News h₀ L h l := news_blk [[_], [_], _] [2] N
theorem news_tl {h₀ h : Heap} {L : Addr} {a : Addr × Obj} {l : Led} (N : News h₀ L h (a :: l)) : News h₀ L h l := news_blk [[_], _] [1] N
theorem ne_tup {h₀ h : Heap} {L : Addr} {news : Led} {a c : Addr} {xs ys : Array Value} {n k : Nat} (N : News h₀ L h news) (ha : (a, ({ cls := .type "tuple", data := .seq xs k } : Obj)) ∈ news) (hc : (c, W.listOf ys n) ∈ news) : a ≠ c := fun q => by
  have h1 := (N _ ha).1
  have h2 := (N _ hc).1
  dsimp only at h1 h2
  rw [q, h2] at h1
  have e := congrArg (fun o : Option Obj => o.map (·.cls)) h1
  simp [W.listOf] at e
theorem pow_gen {prog : Program} {w : World} {A : Around} {E : Value → Shared → Prop} {s : Shared} {a n P : Int} {t u : Tok} {Q : Value → Shared → Prop} (e : a ^ n.toNat = P) (hn : 0 ≤ n) (hn2 : n ≤ 1000000) (ha : a.natAbs < 2 ^ 64) (h : Q (.int P s.toks) { s with toks := s.toks + 1 }) :
    wpAny (model prog w) A (binaryOp .Pow (.int a t) (.int n u)) Q E s := pow_int_small hn hn2 ha (e ▸ h)
theorem price_parts {b n : Nat} (hb : b = 1 ∨ b = 2) (h : n ≤ b) : ∃ P1 P2 : Int, (b : Int) ^ ((n : Int)).toNat = P1 ∧ ((b : Int) + 1) ^ ((b : Int) - (n : Int)).toNat = P2 ∧ 0 ≤ P1 ∧ P1 ≤ 9 ∧ 0 ≤ P2 ∧ P2 ≤ 9 ∧ P1 * P2 = price b n := by
  refine ⟨_, _, rfl, rfl, ?_⟩
  rcases hb with rfl | rfl
  · rcases (by lia : n = 0 ∨ n = 1) with rfl | rfl <;> decide
  · rcases (by lia : n = 0 ∨ n = 1 ∨ n = 2) with rfl | rfl | rfl <;> decide
theorem kept_fold (b : Nat) (whole : Int) : ∀ (l : List (List Nat)) (st : DS), (l.foldl (dstep b whole) st).kept.length = st.kept.length + l.length
  | [], _ => rfl
  | a :: l, st => by
    rw [List.foldl_cons, kept_fold b whole l]
    have : (dstep b whole st a).kept.length = st.kept.length + 1 := by unfold dstep; split <;> simp
    rw [this, List.length_cons]; lia
theorem kept_len (b : Nat) (whole : Int) (lks : List (List Nat)) (i : Nat) : (dinerAt b whole lks i).kept.length ≤ i := by
  unfold dinerAt
  rw [kept_fold, List.length_take]
  show 0 + _ ≤ _
  lia
theorem keys_all {P : Addr → Prop} {l l' : Led} (e : l'.map (·.1) = l.map (·.1)) (h : ∀ p ∈ l, P p.1) : ∀ p ∈ l', P p.1 := fun p hp => by
  have h2 : p.1 ∈ l'.map (·.1) := List.mem_map_of_mem (f := fun x : Addr × Obj => x.1) hp
  rw [e] at h2
  walk_at "open"
  obtain ⟨x, hx, hxe⟩ := List.mem_map.mp h2
  walk_at "shut"
  rw [← hxe]
  exact h x hx
theorem news_turn {h₀ h : Heap} {L : Addr} {x a b c d e f g : Addr × Obj} {l : Led} (N : News h₀ L h (x :: a :: b :: c :: d :: e :: f :: g :: l)) : News h₀ L h (d :: e :: b :: c :: f :: a :: g :: l) := news_blk [[_], [_], [_], [_], [_], [_], [_], [_], _] [4, 5, 2, 3, 6, 1, 7, 8] N
theorem set_three (a b c : Int) (k : Nat) (v : Int) : ∃ f0 f1 f2, [a, b, c].set k v = [f0, f1, f2] := by
  match k with
  | 0 => exact ⟨_, _, _, rfl⟩
  | 1 => exact ⟨_, _, _, rfl⟩
  | 2 => exact ⟨_, _, _, rfl⟩
  | k + 3 => exact ⟨_, _, _, rfl⟩
theorem news_seat0 {h₀ h : Heap} {L : Addr} {a c d e f g i : Addr × Obj} {b l : Led} (N : News h₀ L h (a :: c :: d :: e :: f :: g :: i :: (b ++ l))) : News h₀ L h (b ++ ([a, c, d, e, f, g, i] ++ l)) := news_blk [[_], [_], [_], [_], [_], [_], [_], _, _] [7, 0, 1, 2, 3, 4, 5, 6, 8] N
theorem news_end {h₀ h : Heap} {L : Addr} {a b c d e f : Addr × Obj} {l t : Led} (N : News h₀ L h (a :: b :: c :: d :: e :: f :: (l ++ t))) : News h₀ L h (a :: b :: c :: d :: f :: t) := news_blk [[_], [_], [_], [_], [_], [_], _, _] [0, 1, 2, 3, 5, 7] N
theorem tok_int {a b : Int} {t u : Tok} (h : a = b) (e : t = u) : some (Value.int a t) = some (Value.int b u) := by rw [h, e]
end Mine
namespace Mine
theorem ne_new {g h : Heap} {L : Addr} {rest M' : Led} {a : Addr} {o : Obj} (fr : ∀ p ∈ rest, g.get? p.1 = some p.2) (N : News g L h M') (ha : (a, o) ∈ M') : ∀ q ∈ rest, @Ne Nat q.1 a := fun q hq e => by
  have z := (N _ ha).2.2
  have y := fr q hq
  rw [show q.1 = a from e] at y
  dsimp only at z
  rw [y] at z
  cases z
end Mine

end
section
open PySem.Spec PyProof.V PySem PySem.W PySem.W.X PyProof.Rows PySem.Calls
namespace Mine
theorem PairsAre.mono {nw nw' : Led} {vs : List Value} {ps : List (Int × Int)} (h : PairsAre nw vs ps) (s : ∀ p ∈ nw, p ∈ nw') : PairsAre nw' vs ps := ⟨h.1, fun i v hv => by
  walk_at "open"
  obtain ⟨p, h1, a, t, u, e, hm⟩ := h.2 i v hv
  walk_at "shut"
  exact ⟨p, h1, a, t, u, e, s _ hm⟩⟩
theorem PairsAre.snoc {nw nw' : Led} {vs : List Value} {ps : List (Int × Int)} {a : Addr} {x y : Int} {t u : Tok} (h : PairsAre nw vs ps) (s : ∀ p ∈ nw, p ∈ nw') (hm : (a, tup2 x y t u) ∈ nw') : PairsAre nw' (vs ++ [.ref a]) (ps ++ [(x, y)]) := by
  refine ⟨by simp [h.1], fun i v hv => ?_⟩
  by_cases hi : i < vs.length
  · rw [List.getElem?_append_left hi] at hv
    walk_at "open"
    obtain ⟨p, h1, h2⟩ := (h.mono s).2 i v hv
    walk_at "shut"
    exact ⟨p, by rw [List.getElem?_append_left (h.1 ▸ hi)]; exact h1, h2⟩
  · have e : i = vs.length := by
      have := (List.getElem?_eq_some_iff.mp hv).1
      simp at this
      lia
    subst e
    have ev : Value.ref a = v := by simpa using hv
    refine ⟨(x, y), by rw [h.1]; simp, a, t, u, ev.symm, hm⟩
inductive JPR (pl : Addr) (hosts : Nat) (base : Led) (i : Nat) (ys : List Value) (nw : Led) : Prop
  | mk (tups : Led) (ps : List (Int × Int)) (x0 : nw = tups ++ base) (x1 : (∀ q ∈ tups, @LT.lt Nat _ pl q.1)) (x2 : PairsAre tups ys ps) (x3 : ps.map (·.2) = (List.range i).map fun t => ((t % hosts : Nat) : Int)) : JPR pl hosts base i ys nw
theorem fmod_nat (j h : Nat) : Int.fmod (0 + (j : Int)) (h : Int) = ((j % h : Nat) : Int) := by
  rw [Int.zero_add, Int.fmod_eq_emod_of_nonneg _ (by lia)]
  exact (Int.natCast_emod j h).symm
section
variable {prog : Program} {w : World} {A : Around} {E : Value → Shared → Prop} {s : Shared} {env : Env} {g : Heap} {body : List Stmt} {Q : Flow → Shared → Prop} {m : Str → Option Value} {news : Led} {elts : List Expr} {tp : Pos}
theorem own_not {I : Addr} {v : Value} {l : Addr} {i : Nat} {x1} {Q : Unit → Shared → Prop} (hI : s.heap.IsListIter I l i) (h : Q () s) : wpAny (model prog w) A (letOwnedTupleGo (.Tuple elts x1 tp) (.ref I) v) Q E s := by
  walk_at "open"
  obtain ⟨o, ho, hc, hd⟩ := hI
  walk_at "shut"
  unfold letOwnedTupleGo
  cases v <;> try exact wpAny_pure h
  dsimp only
  refine wpAny_bind (wpAny_load ho ?_)
  rw [hc, hd]
  dsimp only
  rw [if_neg (by simp)]
  exact wpAny_pure h
inductive TLi (s : Shared) (g : Heap) (L I l : Addr) (vs : List Value) (J : Nat → (Str → Option Value) → Led → Prop) (k : Nat) (s' : Shared) : Prop
  | mk (i : Nat) (h : Heap) (tk : Nat) (m' : Str → Option Value) (n' : Led) (oI : Obj) (e : s' = { s with heap := h, toks := tk }) (hi : i ≤ vs.length) (hk : k = vs.length + 1 - i) (it : h.IsListIter I l i ∧ h.IsList l vs.toArray) (F : Fr g L h m') (N : News g L h ((I, oI) :: n')) (hn : ∀ p ∈ n', p.1 ≠ I) (hJ : J i m' n') : TLi s g L I l vs J k s'
theorem for_tl {l : Addr} {vs : List Value} {n : Nat} {x1} (hh : A.handled = none) (J : Nat → (Str → Option Value) → Led → Prop)
    (hG : ∀ i m' n', J i m' n' → (l, ({ cls := .type "list", data := .seq vs.toArray n } : Obj)) ∈ n')
    (F : Fr g env.locals s.heap m) (N : News g env.locals s.heap news) (h0 : J 0 m news)
    (step : ∀ I i v m₁ news₁ h tk oI, vs[i]? = some v → J i m₁ news₁ → (∀ p ∈ news₁, p.1 ≠ I) → Fr g env.locals h m₁ → News g env.locals h ((I, oI) :: news₁) →
      wpAny (model prog w) A (assign (.Tuple elts x1 tp) env v) (fun _ s' => wpAny (model prog w) A (execs body env) (StepP g env.locals I oI (J (i + 1)) { s with heap := h, toks := tk } Q) E s') E { s with heap := h, toks := tk })
    (done : ∀ h tk m₁ news₁, J vs.length m₁ news₁ → Fr g env.locals h m₁ → News g env.locals h news₁ → Q .next { s with heap := h, toks := tk })
    (hE : PassesOwn (model prog w) A env E) :
    wpAny (model prog w) A (pyIter (.ref l)) (fun it s₂ => codeAny (model prog w) A (.forLoop (.Tuple elts x1 tp) it body [] env) (fun r s' => match r with | .ok f => Q f s' | .error e => cameBackBy (model prog w) A env E e s') s₂) E s := by
  have hls : s.heap.IsList l vs.toArray := ⟨_, (N _ (hG _ _ _ h0)).1, rfl, n, rfl⟩
  have hlt : l < s.heap.objs.size := Heap.lt_size (N _ (hG _ _ _ h0)).1
  refine wpAny_pyIter_list hls ?_
  have hne : l ≠ s.heap.objs.size := Nat.ne_of_lt hlt
  have W := Walks.list (prog := prog) (w := w) hh s.heap.objs.size l hne vs.toArray
  have hIL : env.locals ≠ s.heap.objs.size := Nat.ne_of_lt F.ns.lt
  have hI0 : g.get? s.heap.objs.size = none := fresh_none F
  generalize hIe : s.heap.objs.size = I at *
  refine codeAny_forLoop_any (TLi s g env.locals I l vs J) ?_ (vs.length + 1)
    ⟨0, _, s.toks, m, news, { cls := .type "list_iterator", data := .fields #[.ref l, .int 0 0] }, rfl, Nat.zero_le _, rfl, ⟨⟨_, hIe ▸ Heap.get?_push_size _ rfl, rfl, rfl⟩, hls.push _⟩, F.push _, fun p hp => ?_, fun p hp => ?_, h0⟩
  · rintro k s' rq1
    walk_at "open"
    obtain ⟨i, h, tk, m', n', oI, rfl, hi, rfl, hst, F', N', hoff, hJ⟩ := rq1
    walk_at "shut"
    by_cases hlt : i < vs.length
    · refine W.item i _ _ _ (by simpa using hlt) hst fun v h₂ tk₂ hPv hst₂ hk₂ => ?_
      walk_at "open"
      obtain ⟨oI₂, hI₂, _⟩ := id hst₂.1
      walk_at "shut"
      refine own_not hst₂.1 ?_
      have F₂ : Fr g env.locals h₂ m' := LCg.fr_but F' hk₂ hIL hI0
      have N₂ : News g env.locals h₂ ((I, oI₂) :: n') := fun p hp => by
        rcases List.mem_cons.mp hp with rfl | hp
        · exact ⟨hI₂, Ne.symm hIL, hI0⟩
        · exact LCg.news_but (fun p hp => N' p (List.mem_cons_of_mem _ hp)) hk₂ hoff p hp
      refine wpAny_mono (wpAny_passesOwn hE (step I i v m' n' h₂ tk₂ oI₂ (by simpa using hPv) hJ hoff F₂ N₂)) (fun _ s₃ h₃ => wpAny_mono (wpAny_passesOwn hE h₃) (fun f s₄ h₄ => ?_) fun _ _ e => e) fun _ _ e => e
      have again : ∀ (h' : Heap) (n₅ : Led), News g env.locals h' ((I, oI₂) :: n₅) → (l, ({ cls := .type "list", data := .seq vs.toArray n } : Obj)) ∈ n₅ → h'.IsListIter I l (i + 1) ∧ h'.IsList l vs.toArray := fun h' n₅ N₅ hm => by
        walk_at "open"
        obtain ⟨o, e, r⟩ := hst₂.1
        walk_at "shut"
        rw [hI₂] at e
        cases e
        exact ⟨⟨_, (N₅ _ (List.mem_cons_self ..)).1, r⟩, ⟨_, (N₅ _ (List.mem_cons_of_mem _ hm)).1, rfl, n, rfl⟩⟩
      cases f with
      | ret v => exact h₄
      | brk => exact h₄
      | cont =>
        walk_at "open"
        obtain ⟨h', tk', m₅, n₅, e, F₅, N₅, hoff₅, hJ₅⟩ := h₄
        walk_at "shut"
        exact ⟨vs.length + 1 - (i + 1), by lia, i + 1, h', tk', m₅, n₅, _, e, hlt, rfl, again h' n₅ N₅ (hG _ _ _ hJ₅), F₅, N₅, hoff₅, hJ₅⟩
      | next =>
        walk_at "open"
        obtain ⟨h', tk', m₅, n₅, e, F₅, N₅, hoff₅, hJ₅⟩ := h₄
        walk_at "shut"
        exact ⟨vs.length + 1 - (i + 1), by lia, i + 1, h', tk', m₅, n₅, _, e, hlt, rfl, again h' n₅ N₅ (hG _ _ _ hJ₅), F₅, N₅, hoff₅, hJ₅⟩
    · obtain rfl : i = vs.length := Nat.le_antisymm hi (Nat.not_lt.mp hlt)
      refine W.done _ _ _ (by simpa using hst) fun h₂ tk₂ hk₂ => ?_
      exact wpAny_execs_nil (done h₂ tk₂ m' n' hJ (LCg.fr_but F' hk₂ hIL hI0) (LCg.news_but (fun p hp => N' p (List.mem_cons_of_mem _ hp)) hk₂ hoff))
  · rcases List.mem_cons.mp hp with rfl | hp
    · exact ⟨hIe ▸ Heap.get?_push_size _ rfl, Ne.symm hIL, hI0⟩
    · exact ⟨Heap.get?_push_of_some _ (N p hp).1, (N p hp).2⟩
  · rw [← hIe]
    exact Nat.ne_of_lt (Heap.lt_size (N p hp).1)
end
theorem news_cells {h₀ h : Heap} {L : Addr} {x y z a b c : Addr × Obj} {l nw : Led} (H : Has (a :: b :: c :: l) nw) (N : News h₀ L h (x :: y :: z :: nw)) : News h₀ L h (x :: y :: z :: a :: b :: c :: nw) :=
  news_blk [[x], [y], [z], [a], [b], [c], l, nw] [0, 1, 2, 3, 4, 5, 7] (news_more [x, y, z] (fun p hp => (List.mem_append.mp (show p ∈ (a :: b :: c :: l) ++ nw from hp)).elim (H p) id) N)
theorem sub_tup {x y z t a b c : Addr × Obj} {nw : Led} : ∀ p ∈ x :: y :: z :: t :: nw, p ∈ t :: x :: y :: z :: a :: b :: c :: nw := fun p hp => by
  simp only [List.mem_cons] at hp ⊢
  rcases hp with hp | hp | hp | hp | hp <;> simp [hp]
theorem allLt_mem {d : Addr} : ∀ {l : Led}, AllLt d l → ∀ p ∈ l, p.1 < d
  | [], _, _, h => nomatch h
  | a :: l, x, p, h => by
    rcases List.mem_cons.mp h with rfl | h
    · exact x.1
    · exact allLt_mem x.2 p h
noncomputable def nameOf (h : Int) : Nat := (65 + h).toNat
inductive JTf (P : Params) (k : Mch) (tl tp : Tok) (ps : List (Int × Int)) (rst : Led) (i : Nat) (m : Str → Option Value) (N : Led) : Prop
  | mk (push : List Value) (pn : Nat) (x0 : StrsAre push ((((ps.take i).map fun p => nameOf p.2)).map one)) (x1 : m (Str.ofString "line") = some (.ref k.x)) (x2 : N = k.own P 1 tl push pn 0 tp ++ rst) : JTf P k tl tp ps rst i m N
theorem news_foe {h₀ h : Heap} {L : Addr} {d d9 a b c : Addr × Obj} {tups own tl : Led} (N : News h₀ L h (d :: d9 :: (tups ++ (a :: b :: c :: (own ++ tl))))) : News h₀ L h (own ++ (d :: a :: b :: c :: (tups ++ tl))) := news_blk [[_], [_], _, [_], [_], [_], _, _] [6, 0, 3, 4, 5, 2, 7] N
noncomputable def JA (base : Led) (i : Nat) (ys : List Value) (nw : Led) : Prop := Has base nw ∧ StrsAre ys (((List.range i).map fun h => 65 + h).map one)
theorem chr_name (j : Nat) : (⟨#[(65 + (0 + (j : Int))).toNat]⟩ : Str) = one (65 + j) := by
  have : (65 + (0 + (j : Int))).toNat = 65 + j := by lia
  rw [this]
theorem JA.snoc {base nw : Led} {i : Nat} {ys : List Value} {t : Tok} (h : StrsAre ys (((List.range i).map fun h => 65 + h).map one)) (s : Has base nw) : JA base (i + 1) (ys ++ [.str ⟨#[(65 + (0 + (i : Int))).toNat]⟩ t]) nw := by
  refine ⟨s, ?_⟩
  rw [chr_name, List.range_succ, List.map_append, List.map_append]
  exact strs_snoc h
end Mine

end
section
open PySem.Spec PyProof.V PySem PySem.W PySem.W.X PyProof.Rows PySem.Calls
namespace Mine
noncomputable def alen (hosts b : Nat) : Nat → Nat
  | 0 => hosts
  | l + 1 => alen hosts b l * b / (b + 1)
noncomputable def asum (hosts b : Nat) : Nat → Nat
  | 0 => 0
  | l + 1 => asum hosts b l + alen hosts b (l + 1)
noncomputable def hostsL (hosts : Nat) : List Nat := (List.range hosts).map fun h => 65 + h
noncomputable def repb (b : Nat) (l : List Nat) : List Nat := l.flatMap fun c => List.replicate b c
theorem repb_append (b : Nat) (l r : List Nat) : repb b (l ++ r) = repb b l ++ repb b r := by unfold repb; rw [List.flatMap_append]
theorem repb_len (b : Nat) (l : List Nat) : (repb b l).length = b * l.length := by
  induction l with
  | nil => rfl
  | cons a l ih =>
    have : repb b (a :: l) = List.replicate b a ++ repb b l := rfl
    rw [this, List.length_append, ih, List.length_replicate, List.length_cons, Nat.mul_add, Nat.mul_one, Nat.add_comm]
theorem repb_mem {b : Nat} {l : List Nat} {c : Nat} (h : c ∈ repb b l) : c ∈ l := by
  walk_at "open"
  obtain ⟨a, ha, hc⟩ := List.mem_flatMap.mp h
  walk_at "shut"
  rw [(List.mem_replicate.mp hc).2]; exact ha
theorem repb_perm {b : Nat} {l r : List Nat} (h : l.Perm r) : (repb b l).Perm (repb b r) := h.flatMap_right _
theorem first_split {line offs : List Nat} {c : Nat} (h : firstOf line offs = some c) : ∃ pre post, line = pre ++ c :: post ∧ lineAfter line offs = post ++ pre ∧ c ∈ offs := by
  walk_at "open"
  obtain ⟨hc, pre, post, e, hn⟩ := List.find?_eq_some_iff_append.mp h
  walk_at "shut"
  have hc' : c ∈ offs := by simpa using hc
  have hn' : ∀ x ∈ pre, x ∉ offs := fun x hx => by simpa using hn x hx
  have hi : line[pre.length]? = some c := by rw [e]; simp
  have ht : line.take pre.length = pre := by rw [e]; simp
  have hd : line.drop (pre.length + 1) = post := by rw [e]; simp
  refine ⟨pre, post, e, ?_, hc'⟩
  have z := (first_hit (offs := offs) hi (by rw [ht]; exact hn') hc').2
  rw [z, hd, ht]
structure AInv (b hosts l : Nat) (line active : List Nat) (offs : List (List Nat)) (sts : List Nat) (seated : Nat) : Prop where
  nodup : active.Nodup
  len : active.length = alen hosts b l
  cnt : ∀ c ∈ active, line.count c = b - l
  tot : line.length + seated = b * hosts
  seat : seated = asum hosts b l
  same : offs.length = sts.length
  mem : ∀ (k : Nat) c, sts[k]? = some c → ∃ os, offs[k]? = some os ∧ c ∈ os
  perm : (sts ++ repb b active).Perm (repb b (hostsL hosts))
structure TInv (b hosts l : Nat) (A : List Nat) (offs0 : List (List Nat)) (seated0 t : Nat) (line offered chosen : List Nat) (offs : List (List Nat)) (seated : Nat) : Prop where
  perm : (offered ++ chosen).Perm A
  clen : chosen.length = t
  cnt1 : ∀ c ∈ offered, line.count c = b - l
  cnt2 : ∀ c ∈ chosen, line.count c = b - l - 1
  tot : line.length + seated = b * hosts
  seat : seated = seated0 + t
  offs : ∃ nw, offs = offs0 ++ nw ∧ nw.length = t ∧ ∀ os ∈ nw, ∀ c ∈ offered, c ∈ os
theorem AInv.start {b hosts l : Nat} {line A : List Nat} {offs : List (List Nat)} {sts : List Nat} {seated : Nat} (h : AInv b hosts l line A offs sts seated) : TInv b hosts l A offs seated 0 line A [] offs seated where
  perm := by rw [List.append_nil]
  clen := rfl
  cnt1 := h.cnt
  cnt2 := fun _ h => nomatch h
  tot := h.tot
  seat := rfl
  offs := ⟨[], by rw [List.append_nil], rfl, fun _ h => nomatch h⟩
theorem TInv.step {b hosts l t : Nat} {A : List Nat} {offs0 : List (List Nat)} {seated0 : Nat} {line offered chosen : List Nat} {offs : List (List Nat)} {seated : Nat} (h : TInv b hosts l A offs0 seated0 t line offered chosen offs seated) (hA : A.Nodup) (ht : t < A.length) (hl : l < b) :
    ∃ c, firstOf line offered = some c ∧ c ∈ offered ∧ TInv b hosts l A offs0 seated0 (t + 1) (lineAfter line offered) (offered.erase c) (chosen ++ [c]) (offs ++ [offered]) (seated + 1) := by
  have hol : offered.length + t = A.length := by rw [← h.perm.length_eq, List.length_append, h.clen]
  have hex : ∃ c, firstOf line offered = some c := by
    cases hf : firstOf line offered with
    | some c => exact ⟨c, rfl⟩
    | none =>
      obtain ⟨d, hd⟩ := List.exists_mem_of_length_pos (l := offered) (by lia)
      have hc := h.cnt1 d hd
      have : d ∈ line := List.count_pos_iff.mp (by lia)
      have := List.find?_eq_none.mp hf d this
      simp [hd] at this
  walk_at "open"
  obtain ⟨c, hf⟩ := hex
  obtain ⟨pre, post, e, ea, hc⟩ := first_split hf
  walk_at "shut"
  have hnd : (offered ++ chosen).Nodup := h.perm.nodup_iff.mpr hA
  have hno : offered.Nodup := (List.nodup_append.mp hnd).1
  have hdis : ∀ x ∈ offered, x ∉ chosen := fun x hx hy => (List.nodup_append.mp hnd).2.2 x hx x hy rfl
  have hcount : ∀ d, (lineAfter line offered).count d = line.count d - (if d = c then 1 else 0) := fun d => by
    rw [ea, e, List.count_append, List.count_append, List.count_cons]
    by_cases hd : d = c
    · subst hd; simp; lia
    · have : ¬ (c == d) = true := by simpa using Ne.symm hd
      simp [hd, this]; lia
  refine ⟨c, hf, hc, ?_, ?_, ?_, ?_, ?_, ?_, ?_⟩
  · refine List.Perm.trans ?_ h.perm
    have p1 : (offered.erase c ++ (chosen ++ [c])).Perm (c :: (offered.erase c ++ chosen)) := by
      rw [← List.append_assoc]; exact List.perm_append_singleton _ _
    exact p1.trans (List.Perm.append_right chosen (List.perm_cons_erase hc).symm)
  · rw [List.length_append, h.clen]; rfl
  · intro d hd
    rw [hcount d]
    have hdc : d ≠ c := (hno.mem_erase_iff.mp hd).1
    rw [if_neg hdc, h.cnt1 d (List.mem_of_mem_erase hd)]; rfl
  · intro d hd
    rw [hcount d]
    rcases List.mem_append.mp hd with hd | hd
    · have : d ≠ c := fun q => hdis c hc (q ▸ hd)
      rw [if_neg this, h.cnt2 d hd]; rfl
    · rw [List.mem_singleton.mp hd, if_pos rfl, h.cnt1 c hc]
  · have hL : line.length = (lineAfter line offered).length + 1 := by rw [ea, e]; simp; lia
    have := h.tot
    lia
  · rw [h.seat]; lia
  · walk_at "open"
    obtain ⟨nw, e1, e2, e3⟩ := h.offs
    walk_at "shut"
    refine ⟨nw ++ [offered], by rw [e1, List.append_assoc], by rw [List.length_append, e2]; rfl, fun os ho d hd => ?_⟩
    rcases List.mem_append.mp ho with ho | ho
    · exact e3 os ho d (List.mem_of_mem_erase hd)
    · rw [List.mem_singleton.mp ho]; exact List.mem_of_mem_erase hd
theorem mem_tail {sts add : List Nat} {offs0 nw : List (List Nat)} (same : offs0.length = sts.length) (mem : ∀ (k : Nat) c, sts[k]? = some c → ∃ os, offs0[k]? = some os ∧ c ∈ os) (hlen : nw.length = add.length) (hn : ∀ os ∈ nw, ∀ c ∈ add, c ∈ os) :
    ∀ (k : Nat) c, (sts ++ add)[k]? = some c → ∃ os, (offs0 ++ nw)[k]? = some os ∧ c ∈ os := fun k c hk => by
  by_cases hlt : k < sts.length
  · rw [List.getElem?_append_left hlt] at hk
    walk_at "open"
    obtain ⟨os, h1, h2⟩ := mem k c hk
    walk_at "shut"
    exact ⟨os, by rw [List.getElem?_append_left (by lia)]; exact h1, h2⟩
  · rw [List.getElem?_append_right (by lia)] at hk
    have hk2 := (List.getElem?_eq_some_iff.mp hk).1
    have hc : c ∈ add := List.mem_of_getElem? hk
    have hnw : k - offs0.length < nw.length := by lia
    refine ⟨nw[k - offs0.length], ?_, hn _ (List.getElem_mem _) c hc⟩
    rw [List.getElem?_append_right (by lia), List.getElem?_eq_getElem hnw]
theorem AInv.next {b hosts l : Nat} {line0 A line offered chosen sts : List Nat} {offs0 offs : List (List Nat)} {seated0 seated : Nat} (a : AInv b hosts l line0 A offs0 sts seated0) (h : TInv b hosts l A offs0 seated0 (alen hosts b (l + 1)) line offered chosen offs seated)
    (hl : l < b) (hbal : b * (alen hosts b l - alen hosts b (l + 1)) = alen hosts b (l + 1)) : AInv b hosts (l + 1) line chosen offs (sts ++ repb b offered) seated := by
  have hol : offered.length + alen hosts b (l + 1) = alen hosts b l := by rw [← a.len, ← h.perm.length_eq, List.length_append, h.clen]
  walk_at "open"
  obtain ⟨nw, e1, e2, e3⟩ := h.offs
  walk_at "shut"
  have hrl : (repb b offered).length = alen hosts b (l + 1) := by rw [repb_len, ← hbal]; congr 1; exact Nat.eq_sub_of_add_eq hol
  refine ⟨?_, h.clen, fun c hc => by rw [h.cnt2 c hc]; lia, h.tot, ?_, ?_, ?_, ?_⟩
  · exact (List.nodup_append.mp (h.perm.nodup_iff.mpr a.nodup)).2.1
  · rw [h.seat, a.seat]; rfl
  · rw [e1, List.length_append, List.length_append, e2, hrl, a.same]
  · rw [e1]
    exact mem_tail a.same a.mem (by rw [e2, hrl]) fun os ho c hc => e3 os ho c (repb_mem hc)
  · refine List.Perm.trans ?_ a.perm
    rw [List.append_assoc]
    refine List.Perm.append_left sts ?_
    rw [← repb_append]
    exact repb_perm h.perm
theorem AInv.last {b hosts : Nat} {line A sts : List Nat} {offs : List (List Nat)} {seated : Nat} (a : AInv b hosts b line A offs sts seated) : firstOf line A = none ∧ lineAfter line A = line := by
  refine first_miss fun x hx hxa => ?_
  have := a.cnt x hxa
  have h2 := List.count_pos_iff.mpr hx
  lia
theorem AInv.done {b hosts : Nat} {line A sts : List Nat} {offs : List (List Nat)} {seated : Nat} (a : AInv b hosts b line A offs sts seated) :
    seated = asum hosts b b ∧ (offs ++ List.replicate (b * A.length) A).length = (sts ++ repb b A).length ∧ (∀ (k : Nat) c, (sts ++ repb b A)[k]? = some c → ∃ os, (offs ++ List.replicate (b * A.length) A)[k]? = some os ∧ c ∈ os) ∧ (sts ++ repb b A).Perm (repb b (hostsL hosts)) := by
  refine ⟨a.seat, by rw [List.length_append, List.length_append, List.length_replicate, repb_len, a.same], ?_, a.perm⟩
  exact mem_tail a.same a.mem (by rw [List.length_replicate, repb_len]) fun os ho c hc => by rw [(List.mem_replicate.mp ho).2]; exact repb_mem hc
theorem alen_ok {b hosts l : Nat} (hb : (b = 1 ∧ hosts = 2) ∨ (b = 2 ∧ hosts = 9)) (hl : l < b) : b * (alen hosts b l - alen hosts b (l + 1)) = alen hosts b (l + 1) ∧ alen hosts b (l + 1) ≤ alen hosts b l ∧ alen hosts b l ≤ 9 := by
  rcases hb with ⟨rfl, rfl⟩ | ⟨rfl, rfl⟩
  · obtain rfl : l = 0 := by lia
    decide
  · rcases (by lia : l = 0 ∨ l = 1) with rfl | rfl <;> decide
theorem count_range (hosts : Nat) : ∀ b c : Nat, 0 < hosts → ((List.range (b * hosts)).map fun t => 65 + t % hosts).count c = if 65 ≤ c ∧ c < 65 + hosts then b else 0
  | 0, c, _ => by simp
  | b + 1, c, h => by
    rw [Nat.add_mul, Nat.one_mul, List.range_add, List.map_append, List.count_append, count_range hosts b c h, List.map_map]
    have e : (List.range hosts).map ((fun t => 65 + t % hosts) ∘ fun x => b * hosts + x) = (List.range hosts).map fun x => 65 + x := by
      refine List.map_congr_left fun x hx => ?_
      have hx : x < hosts := by simpa using hx
      show 65 + (b * hosts + x) % hosts = 65 + x
      rw [Nat.mul_comm, Nat.mul_add_mod, Nat.mod_eq_of_lt hx]
    rw [e]
    have hc : ((List.range hosts).map fun x => 65 + x).count c = if 65 ≤ c ∧ c < 65 + hosts then 1 else 0 := by
      have hnd : ((List.range hosts).map fun x => 65 + x).Nodup := List.Pairwise.map _ (fun a b h q => h (by lia)) List.nodup_range
      rw [hnd.count]
      simp only [List.mem_map, List.mem_range]
      by_cases hq : 65 ≤ c ∧ c < 65 + hosts
      · rw [if_pos ⟨c - 65, by lia, by lia⟩, if_pos hq]
      · rw [if_neg (by rintro ⟨x, hx, rfl⟩; exact hq ⟨by lia, by lia⟩), if_neg hq]
    rw [hc]
    split <;> lia
theorem AInv.first {b hosts : Nat} {names : List Nat} (hb : (b = 1 ∧ hosts = 2) ∨ (b = 2 ∧ hosts = 9)) (h : names.Perm ((List.range (b * hosts)).map fun t => 65 + t % hosts)) : AInv b hosts 0 names (hostsL hosts) [] [] 0 where
  nodup := List.Pairwise.map _ (fun a b h q => h (by lia)) List.nodup_range
  len := by simp [hostsL, alen]
  cnt := fun c hc => by
    rw [h.count_eq, count_range hosts b c (by rcases hb with ⟨rfl, rfl⟩ | ⟨rfl, rfl⟩ <;> decide)]
    walk_at "open"
    obtain ⟨x, hx, rfl⟩ := List.mem_map.mp hc
    walk_at "shut"
    have hx : x < hosts := by simpa using hx
    rw [if_pos ⟨by lia, by lia⟩]; lia
  tot := by rw [h.length_eq]; simp
  seat := rfl
  same := rfl
  mem := fun k c h => by simp at h
  perm := by simp
end Mine
namespace Mine
noncomputable def OffsAre (nw : Led) (vs : List Value) (offs : List (List Nat)) : Prop := vs.length = offs.length ∧ ∀ (i : Nat) v, vs[i]? = some v → ∃ os, offs[i]? = some os ∧ ∃ a xs n, v = .ref a ∧ (a, W.listOf (List.toArray xs) n) ∈ nw ∧ StrsAre xs (os.map one)
theorem OffsAre.snoc {nw : Led} {vs : List Value} {offs : List (List Nat)} {a : Addr} {xs : List Value} {n : Nat} {os : List Nat} (h : OffsAre nw vs offs) (hs : StrsAre xs (os.map one)) : OffsAre ((a, W.listOf xs.toArray n) :: nw) (vs ++ [.ref a]) (offs ++ [os]) := by
  refine ⟨by simp [h.1], fun i v hv => ?_⟩
  by_cases hi : i < vs.length
  · rw [List.getElem?_append_left hi] at hv
    walk_at "open"
    obtain ⟨os', h1, b, ys, k, h2, h3, h4⟩ := h.2 i v hv
    walk_at "shut"
    exact ⟨os', by rw [List.getElem?_append_left (h.1 ▸ hi)]; exact h1, b, ys, k, h2, List.mem_cons_of_mem _ h3, h4⟩
  · have e : i = vs.length := by
      have := (List.getElem?_eq_some_iff.mp hv).1
      simp at this
      lia
    subst e
    have ev : Value.ref a = v := by simpa using hv
    refine ⟨os, by rw [h.1]; simp, a, xs, n, ev.symm, List.mem_cons_self .., hs⟩
theorem tail_ne {k : Mch} {text : Str} {P : Params} {tl tp : Tok} {TL offled : Led} {X : Addr} (hk : Mch.Ok k text) (hX : @LT.lt Nat _ k.pl X) (hTL : ∀ q ∈ TL, @LT.lt Nat _ q.1 k.ct) (hof : ∀ q ∈ offled, q.1 ≠ X) (ps : List Value) (pn : Nat) :
    ∀ q ∈ k.own P 1 tl ps pn 0 tp ++ (TL ++ offled), q.1 ≠ X := fun q hq => by
  rcases List.mem_append.mp hq with hq | hq
  · exact fun e => own_above hk (q := q.1) (by rw [e]; exact hX) (List.mem_map_of_mem (f := fun x : Addr × Obj => x.1) hq)
  · rcases List.mem_append.mp hq with hq | hq
    · exact Nat.ne_of_lt (Nat.lt_trans (Nat.lt_trans (hTL q hq) hk.all.1.2.2.2.2.2.2.2) hX)
    · exact hof q hq
inductive JFo (P : Params) (k : Mch) (tl tp : Tok) (b hosts : Nat) (cells TL : Led) (OL SL : Addr) (i : Nat) (m : Str → Option Value) (N : Led) : Prop
  | mk (line active : List Nat) (offs : List (List Nat)) (sts : List Nat) (seated : Nat) (push pa vO vS : List Value) (pn na nO nS : Nat) (AL : Addr) (ta : Tok) (offled : Led) (x0 : AInv b hosts i line active offs sts seated) (x1 : StrsAre push (line.map one)) (x2 : StrsAre pa (active.map one)) (x3 : StrsAre vS (sts.map one)) (x4 : OffsAre offled vO offs) (x5 : (∀ q ∈ offled, @LT.lt Nat _ SL q.1 ∧ q.1 ≠ AL)) (x6 : (AL ∉ (k.own P 1 tl [] 0 0 tp).map (·.1) ∧ @Ne Nat AL OL ∧ @Ne Nat AL SL ∧ ∀ q ∈ cells ++ TL, q.1 ≠ AL)) (x7 : m (Str.ofString "line") = some (.ref k.x)) (x8 : m (Str.ofString "active") = some (.ref AL)) (x9 : m (Str.ofString "offers") = some (.ref OL)) (x10 : m (Str.ofString "seats") = some (.ref SL)) (x11 : m (Str.ofString "seated") = some (.int (seated : Nat) ta)) (x12 : N = (AL, W.listOf pa.toArray na) :: (SL, W.listOf vS.toArray nS) :: (OL, W.listOf vO.toArray nO) :: (cells ++ (k.own P 1 tl push pn 0 tp ++ (TL ++ offled)))) : JFo P k tl tp b hosts cells TL OL SL i m N
inductive JLo (P : Params) (k : Mch) (tl tp : Tok) (b hosts l : Nat) (cells TL : Led) (OL SL OF CH I0 : Addr) (A : List Nat) (offs0 : List (List Nat)) (seated0 : Nat) (vS : List Value) (nS : Nat) (sz : Value) (t : Nat) (m : Str → Option Value) (N : Led) : Prop
  | mk (line offered chosen : List Nat) (offs : List (List Nat)) (seated : Nat) (push po vC vO : List Value) (pn no nC nO : Nat) (ta : Tok) (offled : Led) (x0 : TInv b hosts l A offs0 seated0 t line offered chosen offs seated) (x1 : StrsAre push (line.map one)) (x2 : StrsAre po (offered.map one)) (x3 : StrsAre vC (chosen.map one)) (x4 : OffsAre offled vO offs) (x5 : (∀ q ∈ offled, @LT.lt Nat _ SL q.1 ∧ q.1 ≠ OF ∧ q.1 ≠ CH ∧ q.1 ≠ I0)) (x6 : m (Str.ofString "line") = some (.ref k.x)) (x7 : m (Str.ofString "offers") = some (.ref OL)) (x8 : m (Str.ofString "seats") = some (.ref SL)) (x9 : m (Str.ofString "seated") = some (.int (seated : Nat) ta)) (x10 : m (Str.ofString "offered") = some (.ref OF)) (x11 : m (Str.ofString "chosen") = some (.ref CH)) (x12 : m (Str.ofString "size") = some sz) (x13 : N = (CH, W.listOf vC.toArray nC) :: (OF, W.listOf po.toArray no) :: (SL, W.listOf vS.toArray nS) :: (OL, W.listOf vO.toArray nO) :: (cells ++ (k.own P 1 tl push pn 0 tp ++ (TL ++ offled)))) : JLo P k tl tp b hosts l cells TL OL SL OF CH I0 A offs0 seated0 vS nS sz t m N
theorem size_eq {b hosts l : Nat} {n : Nat} (h : n = alen hosts b l) : Int.fdiv ((n : Int) * (b : Int)) ((b : Int) + 1) = ((alen hosts b (l + 1) : Nat) : Int) := by
  rw [h, Int.fdiv_eq_ediv_of_nonneg _ (by lia)]
  show _ = ((alen hosts b l * b / (b + 1) : Nat) : Int)
  rw [Int.natCast_ediv]
  simp
end Mine
namespace Mine
noncomputable def BH (b hosts : Nat) : Prop := (b = 1 ∧ hosts = 2) ∨ (b = 2 ∧ hosts = 9)
theorem BH.ok {b hosts : Nat} (h : BH b hosts) : 1 ≤ b ∧ b ≤ 2 ∧ 2 ≤ hosts ∧ hosts ≤ 9 ∧ b * hosts ≤ 18 ∧ 2 ≤ b * hosts := by
  rcases h with ⟨rfl, rfl⟩ | ⟨rfl, rfl⟩ <;> decide
end Mine
namespace Mine
theorem news_start {h₀ h : Heap} {L : Addr} {a b c d e f : Addr × Obj} {own tl : Led} (N : News h₀ L h (a :: b :: c :: d :: e :: f :: (own ++ tl))) : News h₀ L h (c :: a :: b :: ([d, e, f] ++ (own ++ (tl ++ [])))) := news_blk [[_], [_], [_], [_], [_], [_], _, _] [2, 0, 1, 3, 4, 5, 6, 7, 8] N
end Mine
namespace Mine
theorem news_lev {h₀ h : Heap} {L : Addr} {a b c d e f x y z : Addr × Obj} {l : Led} (N : News h₀ L h (a :: b :: c :: d :: e :: f :: x :: y :: z :: l)) : News h₀ L h (a :: b :: e :: f :: ([c, x, y, z] ++ l)) := news_blk [[_], [_], [_], [_], [_], [_], [_], [_], [_], _] [0, 1, 4, 5, 2, 6, 7, 8, 9] N
end Mine
namespace Mine
theorem off_turn {I : Addr} {a b c d a' b' d' D : Addr × Obj} {cells own own' TL offl : Led} (ha : a'.1 = a.1) (hb : b'.1 = b.1) (hd : d'.1 = d.1) (ho : own'.map (·.1) = own.map (·.1)) (h : ∀ p ∈ a :: b :: c :: d :: (cells ++ (own ++ (TL ++ offl))), p.1 ≠ I) (hD : D.1 ≠ I) :
    ∀ p ∈ a' :: b' :: c :: d' :: (cells ++ (own' ++ (TL ++ (D :: offl)))), p.1 ≠ I := fun p hp => by
  simp only [List.mem_append, List.mem_cons] at hp
  rcases hp with rfl | rfl | rfl | rfl | hp | hp | hp | rfl | hp
  · rw [ha]; exact h a (by simp)
  · rw [hb]; exact h b (by simp)
  · exact h _ (by simp)
  · rw [hd]; exact h d (by simp)
  · exact h p (by simp [hp])
  · exact keys_all (P := fun x => x ≠ I) ho (fun q hq => h q (by simp [hq])) p hp
  · exact h p (by simp [hp])
  · exact hD
  · exact h p (by simp [hp])
theorem news_turnF {h₀ h : Heap} {L : Addr} {d i2 ch of sl ol i x y z : Addr × Obj} {own tl offl : Led} (N : News h₀ L h (d :: i2 :: ch :: of :: sl :: ol :: i :: x :: y :: z :: (own ++ (tl ++ offl)))) : News h₀ L h (of :: own ++ ([d, i2, ch, sl, ol, i, x, y, z] ++ (tl ++ offl))) := news_blk [[_], [_], [_], [_], [_], [_], [_], [_], [_], [_], _, _, _] [3, 10, 0, 1, 2, 4, 5, 6, 7, 8, 9, 11, 12] N
theorem news_turnB {h₀ h : Heap} {L : Addr} {d i2 ch of sl ol i x y z : Addr × Obj} {own tl offl : Led} (N : News h₀ L h (of :: own ++ ([d, i2, ch, sl, ol, i, x, y, z] ++ (tl ++ offl)))) : News h₀ L h (d :: i2 :: ch :: of :: sl :: ol :: i :: x :: y :: z :: (own ++ (tl ++ offl))) := news_blk [[_], _, [_], [_], [_], [_], [_], [_], [_], [_], [_], _, _] [2, 3, 4, 0, 5, 6, 7, 8, 9, 10, 1, 11, 12] N
theorem news_turnE {h₀ h : Heap} {L : Addr} {d i2 ch of sl ol i x y z : Addr × Obj} {own tl offl : Led} (N : News h₀ L h (d :: i2 :: ch :: of :: sl :: ol :: i :: x :: y :: z :: (own ++ (tl ++ offl)))) : News h₀ L h (i2 :: ch :: of :: sl :: ol :: ([i, x, y, z] ++ (own ++ (tl ++ (d :: offl))))) := news_blk [[_], [_], [_], [_], [_], [_], [_], [_], [_], [_], _, _, _] [1, 2, 3, 4, 5, 6, 7, 8, 9, 10, 11, 0, 12] N
end Mine
namespace Mine
noncomputable def JR1 (b : Nat) (base : Led) (L : List Nat) (i : Nat) (ys : List Value) (nw : Led) : Prop := Has base nw ∧ StrsAre ys ((repb b (L.take i)).map one)
noncomputable def JR2 (b : Nat) (base : Led) (L : List Nat) (i j : Nat) (ys : List Value) (nw : Led) : Prop := Has base nw ∧ StrsAre ys ((repb b (L.take i) ++ List.replicate j (L.getD i 0)).map one)
theorem JR.close {b : Nat} {base : Led} {L : List Nat} {i : Nat} {ys : List Value} {nw : Led} (hi : i < L.length) (h : JR2 b base L i b ys nw) : JR1 b base L (i + 1) ys nw := by
  refine ⟨h.1, ?_⟩
  have e : repb b (L.take (i + 1)) = repb b (L.take i) ++ List.replicate b (L.getD i 0) := by
    rw [List.take_succ, List.getElem?_eq_getElem hi, Option.toList_some, repb_append]
    congr 1
    simp [repb, List.getD, hi]
  rw [e]; exact h.2
theorem JR.step {b : Nat} {base nw nw' : Led} {L : List Nat} {i j : Nat} {ys : List Value} {v : Value} {t : Tok} (h : JR2 b base L i j ys nw) (hv : v = .str (one (L.getD i 0)) t) (hb : Has base nw') : JR2 b base L i (j + 1) (ys ++ [v]) nw' := by
  refine ⟨hb, ?_⟩
  rw [List.replicate_succ', ← List.append_assoc, List.map_append, hv]
  exact strs_snoc h.2
theorem strs_getD {vs : List Value} {L : List Nat} {i : Nat} {v : Value} (h : StrsAre vs (L.map one)) (hv : vs[i]? = some v) : ∃ t, v = .str (one (L.getD i 0)) t ∧ i < L.length := by
  walk_at "open"
  obtain ⟨x, t, rfl, hx⟩ := strs_at h hv
  walk_at "shut"
  rw [List.getElem?_map] at hx
  cases e : L[i]? with
  | none => rw [e] at hx; exact nomatch hx
  | some c =>
    rw [e] at hx
    cases hx
    exact ⟨t, by simp [List.getD, e], (List.getElem?_eq_some_iff.mp e).1⟩
theorem has_offA {I2 I C D : Addr} {base nw : Led} (H : Has base nw) (o : OffA I2 I C D nw) : OffA I2 I C D base := fun p hp => o p (H p hp)
theorem has_news4 {h₀ h : Heap} {L : Addr} {x a b c : Addr × Obj} {base nw : Led} (H : Has base nw) (N : News h₀ L h (x :: a :: b :: c :: nw)) : News h₀ L h (x :: a :: b :: c :: base) := news_more [_, _, _, _] H N
end Mine
namespace Mine
theorem body_rep {prog : Program} {w : World} {A : Around} {h₀ : Heap} {L : Addr} {m : Str → Option Value} {env : Env} {elt : Expr} {x1 x2 : Str} {iter2 : Expr} {ifs : List Expr} {scope : Scope} {cl : List (Str × Addr)} {s₂ : Shared} {S : Led → Prop} {P : Nat → Value → Prop} {n : Nat} {news : Led} {Fin : List Value → Led → Prop}
    (b : Nat) (L0 : List Nat) (hsz : n * b ≤ 1000000) (h : Rest2 prog w A h₀ L m env elt x1 x2 iter2 ifs scope cl s₂ S P n news Fin (JR1 b news L0) (JR2 b news L0) b 0) : Body2 prog w A h₀ L m env elt x1 x2 iter2 ifs scope cl s₂ S P n news Fin :=
  ⟨_, _, _, _, hsz, ⟨Has.refl _, .nil⟩, h⟩
end Mine
namespace Mine
theorem AInv.sts_len {b hosts l : Nat} {line A sts : List Nat} {offs : List (List Nat)} {seated : Nat} (a : AInv b hosts l line A offs sts seated) : sts.length ≤ b * hosts := by
  have h := a.perm.length_eq
  rw [List.length_append, repb_len, repb_len] at h
  have : (hostsL hosts).length = hosts := by simp [hostsL]
  rw [this] at h
  lia
theorem news_levE {h₀ h : Heap} {L : Addr} {al d1 d9 d2 ch of sl ol i x y z : Addr × Obj} {l : Led} (N : News h₀ L h (al :: d1 :: d9 :: d2 :: ch :: of :: sl :: ol :: i :: x :: y :: z :: l)) : News h₀ L h (i :: al :: sl :: ol :: ([x, y, z] ++ l)) := news_blk [[_], [_], [_], [_], [_], [_], [_], [_], [_], [_], [_], [_], _] [8, 0, 6, 7, 9, 10, 11, 12] N
theorem off_lev {I : Addr} {a a' b b' c c' : Addr × Obj} {cells own own' TL offl offl' : Led} (ha : a'.1 ≠ I) (hb : b'.1 = b.1) (hc : c'.1 = c.1) (ho : own'.map (·.1) = own.map (·.1)) (h : ∀ p ∈ a :: b :: c :: (cells ++ (own ++ (TL ++ offl))), p.1 ≠ I) (hf : ∀ q ∈ offl', q.1 ≠ I) :
    ∀ p ∈ a' :: b' :: c' :: (cells ++ (own' ++ (TL ++ offl'))), p.1 ≠ I := fun p hp => by
  simp only [List.mem_append, List.mem_cons] at hp
  rcases hp with rfl | rfl | rfl | hp | hp | hp | hp
  · exact ha
  · rw [hb]; exact h b (by simp)
  · rw [hc]; exact h c (by simp)
  · exact h p (by simp [hp])
  · exact keys_all (P := fun x => x ≠ I) ho (fun q hq => h q (by simp [hq])) p hp
  · exact h p (by simp [hp])
  · exact hf p hp
inductive JEo (P : Params) (k : Mch) (tl tp : Tok) (cells TL : Led) (OL SL AL : Addr) (line active : List Nat) (offs : List (List Nat)) (seated : Nat) (pa vS : List Value) (na nS : Nat) (t : Nat) (m : Str → Option Value) (N : Led) : Prop
  | mk (push vO : List Value) (pn nO : Nat) (ta : Tok) (offled : Led) (x0 : StrsAre push (line.map one)) (x1 : OffsAre offled vO (offs ++ List.replicate t active)) (x2 : (∀ q ∈ offled, @LT.lt Nat _ SL q.1 ∧ q.1 ≠ AL)) (x3 : m (Str.ofString "line") = some (.ref k.x)) (x4 : m (Str.ofString "active") = some (.ref AL)) (x5 : m (Str.ofString "offers") = some (.ref OL)) (x6 : m (Str.ofString "seats") = some (.ref SL)) (x7 : m (Str.ofString "seated") = some (.int (seated : Nat) ta)) (x8 : N = (AL, W.listOf pa.toArray na) :: (SL, W.listOf vS.toArray nS) :: (OL, W.listOf vO.toArray nO) :: (cells ++ (k.own P 1 tl push pn 0 tp ++ (TL ++ offled)))) : JEo P k tl tp cells TL OL SL AL line active offs seated pa vS na nS t m N
end Mine
namespace Mine
theorem alast_ok {b hosts : Nat} (hb : BH b hosts) : alen hosts b b ≤ 4 ∧ b * alen hosts b b ≤ 8 := by
  rcases hb with ⟨rfl, rfl⟩ | ⟨rfl, rfl⟩ <;> decide
end Mine
namespace Mine
theorem news_endF {h₀ h : Heap} {L : Addr} {d i2 al sl ol x y z : Addr × Obj} {own tl offl : Led} (N : News h₀ L h (d :: i2 :: al :: sl :: ol :: x :: y :: z :: (own ++ (tl ++ offl)))) : News h₀ L h (al :: own ++ ([d, i2, sl, ol, x, y, z] ++ (tl ++ offl))) := news_blk [[_], [_], [_], [_], [_], [_], [_], [_], _, _, _] [2, 8, 0, 1, 3, 4, 5, 6, 7, 9, 10] N
theorem news_endB {h₀ h : Heap} {L : Addr} {d i2 al sl ol x y z : Addr × Obj} {own tl offl : Led} (N : News h₀ L h (al :: own ++ ([d, i2, sl, ol, x, y, z] ++ (tl ++ offl)))) : News h₀ L h (d :: i2 :: al :: sl :: ol :: x :: y :: z :: (own ++ (tl ++ offl))) := news_blk [[_], _, [_], [_], [_], [_], [_], [_], [_], _, _] [2, 3, 0, 4, 5, 6, 7, 8, 1, 9, 10] N
theorem news_endE {h₀ h : Heap} {L : Addr} {d i2 al sl ol x y z : Addr × Obj} {own tl offl : Led} (N : News h₀ L h (d :: i2 :: al :: sl :: ol :: x :: y :: z :: (own ++ (tl ++ offl)))) : News h₀ L h (i2 :: al :: sl :: ol :: ([x, y, z] ++ (own ++ (tl ++ (d :: offl))))) := news_blk [[_], [_], [_], [_], [_], [_], [_], [_], _, _, _] [1, 2, 3, 4, 5, 6, 7, 8, 9, 0, 10] N
end Mine
namespace Mine
theorem news_foeE {h₀ h : Heap} {L : Addr} {tu d9 al sl ol x y z : Addr × Obj} {own tl offl : Led} (N : News h₀ L h (tu :: d9 :: al :: sl :: ol :: x :: y :: z :: (own ++ (tl ++ offl)))) : News h₀ L h (tu :: ol :: sl :: (offl ++ tl)) := news_blk [[_], [_], [_], [_], [_], [_], [_], [_], _, _, _] [0, 4, 3, 10, 9] N
end Mine

end
section
open PySem.Spec PyProof.V PySem PySem.W PySem.W.X PyProof.Rows PySem.Calls
namespace Mine
inductive PowObj (w : World) (b hosts : Nat) (o : Obj) : Prop
  | mk (kvs : _) (D : _) (x0 : o.IsDictOf (intKind PySem.Challenge.pw_to0079_01 w) kvs) (x1 : FlatPairs PyData.int kvs D) (x2 : PySem.Spec.lookup (PyData.int b) D = some (PyData.int hosts)) : PowObj w b hosts o
theorem c_pow {w : World} {p : Program} {loose : List Str} {mean : ExcName → Option Value} {mg mb : Str → Option Value} {A₀ : Around} {base h₀ : Heap} {outer : List Env} {cs : Scope} {L : Addr} {m : Str → Option Value} {s : Shared} {dp un : Nat} {gd : Option (List Code)} {cn : Str} {a : Addr} {ccd : Value} {cl : List (Str × Addr)} {rest : Led} {R : Result → Shared → Prop}
   {t1 t2 t3 : Tok} {b hosts : Nat} (hr : PySem.Challenge.rw_to0079_01 = PySem.Challenge.rw_to0079_01) (hb : BH b hosts)
   (C : Ctx (Khp w.params) p loose mean mg mb A₀ base h₀ outer cs L m s dp 3 un 20) (N : News h₀ L s.heap rest)
   (k : ∀ (d : Addr) (o : Obj) h' tk' d', (d == sysModules) = false → PowObj w b hosts o → Fr h₀ L h' m → News h₀ L h' ((d, o) :: rest) → R (.ok (.ret (.ref d))) {s with heap := h', toks := tk', drawn := d'}) :
   codeAny (model PySem.Challenge.pw_to0079_01 w) (ktrTop dp un gd cn cs L a ccd cl outer) (.call (.ref 22) ⟨[.int (2 * (b : Int)) t1, .int ((b : Int) + 1) t2, .int 1 t3], []⟩) R s := by
  rcases hb with ⟨rfl, rfl⟩ | ⟨rfl, rfl⟩
  · exact c_pow1 hr C N fun d o u1 _ h' tk' d' h1 h2 h3 F N => k d o h' tk' d' h1 ⟨_, _, h2, h3, by rfl⟩ F N
  · exact c_pow2 hr C N fun d o u1 u2 h' tk' d' h1 h2 h3 F N => k d o h' tk' d' h1 ⟨_, _, h2, h3, by rfl⟩ F N
theorem item_pow {w : World} {A : Around} {E : Value → Shared → Prop} {s : Shared} {h₀ : Heap} {L : Addr} {news : Led} {d : Addr} {o : Obj} {b hosts : Nat} {t : Tok} {value slice : Expr} {Q : Value → Shared → Prop} (N : News h₀ L s.heap news) (hm : (d, o) ∈ news) (hd : (d == sysModules) = false) (hp : PowObj w b hosts o)
    (h : ∀ u k, Q (.int (hosts : Nat) u) { s with toks := k })
    (hs : subscripted slice false (.ref d) (.int (b : Nat) t) = operate [.ref d, .int (b : Nat) t] (getItem (.ref d) (.int (b : Nat) t))) (hg : ∀ r, letTemporaryGo value (.ref d) r = pure ()) :
    wpAny (model prg w) A (subscriptTail value slice (.ref d) (.int (b : Nat) t)) Q E s := by
  walk_at "open"
  obtain ⟨kvs, D, h1, h2, h3⟩ := hp
  walk_at "shut"
  refine item_intTab (D := D) ⟨hd, kvs, Heap.dictOf_iff.mpr ⟨o, (N _ hm).1, h1⟩, h2⟩ h3 (fun v hv => ?_) hs hg
  obtain ⟨u, rfl⟩ := Flat.int_inv hv
  exact h _ _
noncomputable def NotCell (o : Obj) : Prop := ∀ v, o.data ≠ .cell v
theorem store_nc {M : Model} {A : Around} {E : Value → Shared → Prop} {s : Shared} {h₀ : Heap} {L : Addr} {m : Str → Option Value} {env : Env} {x : Str} {v : Value} {Q : Unit → Shared → Prop} {all news : Led} {c : Addr} {o : Obj} {v₀ : Option Value}
    (F : Fr h₀ L s.heap m) (N : News h₀ L s.heap all) (hs : ∀ p ∈ (c, o) :: news, p ∈ all) (hc : env.cells.lookup x = some c) (hd : o.data = .cell v₀) (hn : ∀ p ∈ news, p.1 ≠ c ∨ NotCell p.2)
    (h : ∀ h' o', Fr h₀ L h' m → News h₀ L h' ((c, o') :: news) → o'.data = .cell (some v) → Q () { s with heap := h' })
    (hk : env.scope.kind = .function) (hx : env.kindOf x = some .cell) : wpAny M A (storeName env x v) Q E s := by
  have N' : News h₀ L s.heap ((c, o) :: news) := fun p hp => N p (hs p hp)
  refine store_cell F N' hc hd (fun p hp e => ?_) h hk hx
  rcases hn p hp with q | q
  · exact q e
  · have h1 := (N' p (List.mem_cons_of_mem _ hp)).1
    have h2 := (N' (c, o) (List.mem_cons_self ..)).1
    dsimp only at h2
    rw [e, h2] at h1
    injection h1 with h1
    exact q _ (h1 ▸ hd)
theorem law_nums {b hosts : Nat} (h : BH b hosts) : ∃ sb : Nat, (b : Int) ^ ((b : Int)).toNat = (sb : Int) ∧ sb = b ^ b ∧ 1 ≤ sb ∧ sb ≤ 4 ∧ (hosts : Int) = ((b : Int) + 1) ^ b ∧ asum hosts b b = b * (hosts - b ^ b) := by
  rcases h with ⟨rfl, rfl⟩ | ⟨rfl, rfl⟩
  · exact ⟨1, by decide, by decide, by decide, by decide, by decide, by decide⟩
  · exact ⟨4, by decide, by decide, by decide, by decide, by decide, by decide⟩
end Mine

end
section
open PySem.Spec PyProof.V PySem PySem.W PySem.W.X PyProof.Rows PySem.Calls
namespace Mine
noncomputable def hitB (sh m : Int) : Bool := Builtin.bitAnd m (7 - sh) != 0
noncomputable def cutOf (ms : List Int) (b sh : Int) : Int := b * pop sh + ((ms.filter (hitB sh)).length : Int)
noncomputable def cutsTo (ms : List Int) (b : Int) (i : Nat) : List Int := (List.range i).map fun (j : Nat) => cutOf ms b (j : Int)
theorem bits_ok {x : Int} (h0 : 0 ≤ x) (h1 : x < 8) : ∃ k0 : Nat, (((Builtin.Int.intBits x : Nat) : Int) + 1 - 1).fdiv 1 = (k0 : Int) ∧ (x = 0 ∨ 1 ≤ k0) ∧ k0 ≤ 3 ∧ x < 2 ^ k0 := by
  have : x = 0 ∨ x = 1 ∨ x = 2 ∨ x = 3 ∨ x = 4 ∨ x = 5 ∨ x = 6 ∨ x = 7 := by lia
  rcases this with rfl | rfl | rfl | rfl | rfl | rfl | rfl | rfl
  · exact ⟨0, by decide +kernel, .inl rfl, by decide, by decide⟩
  · exact ⟨1, by decide +kernel, .inr (by decide), by decide, by decide⟩
  · exact ⟨2, by decide +kernel, .inr (by decide), by decide, by decide⟩
  · exact ⟨2, by decide +kernel, .inr (by decide), by decide, by decide⟩
  · exact ⟨3, by decide +kernel, .inr (by decide), by decide, by decide⟩
  · exact ⟨3, by decide +kernel, .inr (by decide), by decide, by decide⟩
  · exact ⟨3, by decide +kernel, .inr (by decide), by decide, by decide⟩
  · exact ⟨3, by decide +kernel, .inr (by decide), by decide, by decide⟩
noncomputable def TabI (a b : Addr) (T : Led) : Prop := T = [(38, tabObj #[])] ∨ ∃ c oc, T = [(38, tabObj #[rawInt 73, rawInt 4, .ref c]), (c, oc)] ∧ codeHas oc (Str.ofString "_int2digits.<locals>.inner") ∧ @LT.lt Nat _ 38 c ∧ @Ne Nat a c ∧ @Ne Nat b c
inductive JM (ms : List Int) (b : Int) (tb : Tok) (ML CL : Addr) (vsM : List Value) (n0 : Nat) (i : Nat) (m : Str → Option Value) (N : Led) : Prop
  | mk (vs : List Value) (n : Nat) (T : Led) (x0 : IntsAre vs (cutsTo ms b i)) (x1 : m (Str.ofString "cuts") = some (.ref CL)) (x2 : m (Str.ofString "masks") = some (.ref ML)) (x3 : m (Str.ofString "b") = some (.int b tb)) (x4 : TabI ML CL T) (x5 : N = (CL, W.listOf vs.toArray n) :: (ML, W.listOf vsM.toArray n0) :: T) : JM ms b tb ML CL vsM n0 i m N
theorem cutsTo_succ (ms : List Int) (b : Int) (i : Nat) : cutsTo ms b (i + 1) = cutsTo ms b i ++ [cutOf ms b (i : Int)] := by
  unfold cutsTo; rw [List.range_succ, List.map_append]; rfl
noncomputable def JT (base : Led) (ms : List Int) (sh : Int) (i : Nat) (ys : List Value) (nw : Led) : Prop := Has base nw ∧ ys.length = ((ms.take i).filter (hitB sh)).length
theorem take_filter {ms : List Int} {sh m : Int} {j : Nat} (h : ms[j]? = some m) : ((ms.take (j + 1)).filter (hitB sh)).length = ((ms.take j).filter (hitB sh)).length + (if hitB sh m then 1 else 0) := by
  rw [List.take_succ, h, Option.toList_some, List.filter_append, List.length_append]
  congr 1
  rw [List.filter_cons]
  cases hitB sh m <;> rfl
end Mine
namespace Mine
theorem ints_at {vs : List Value} {ns : List Int} (h : IntsAre vs ns) : ∀ {j : Nat} {v : Value}, vs[j]? = some v → ∃ m t, v = .int m t ∧ ns[j]? = some m := by
  induction h with
  | nil => intro j v e; simp at e
  | cons n t _ ih =>
    intro j v e
    cases j with
    | zero => simp only [List.getElem?_cons_zero, Option.some.injEq] at e; exact ⟨n, t, e.symm, rfl⟩
    | succ j => exact ih (by simpa using e)
end Mine
namespace Mine
theorem len_led {w : World} {A : Around} {E : Value → Shared → Prop} {s : Shared} {h₀ : Heap} {L l : Addr} {news : Led} {vs : List Value} {n : Nat} {Q : Value → Shared → Prop} (N : News h₀ L s.heap news) (hm : (l, W.listOf vs.toArray n) ∈ news) (hl : vs.length ≤ 1000)
    (h : ∀ t k, Q (.int (vs.length : Nat) t) { s with toks := k }) : wpAny (model prg w) A (call (.builtin "len") [.ref l]) Q E s := by
  refine len_list (items := vs.toArray) ⟨_, (N _ hm).1, rfl, n, rfl⟩ (by rw [List.size_toArray]; lia) ?_
  rw [List.size_toArray]
  exact h _ _
end Mine

end
section
open PySem PySem.W PySem.W.X PyProof.Rows PySem.Calls
namespace Mine
noncomputable def startOf (x : Int) : Int := if (x.fdiv 7).fmod 4 = 0 then 97 else if (x.fdiv 7).fmod 4 = 1 then 65 else if (x.fdiv 7).fmod 4 = 2 then 119808 else 119860
noncomputable def hidOf (x : Int) : Str := if (x.fdiv 28).fmod 2 = 1 then ⟨#[(65024 + x.fmod 16).toNat]⟩ else Str.ofString ""
noncomputable def addLet (c : Prop) [Decidable c] (w : Str) (n : Int) : Str := if c then w ++ ⟨#[n.toNat]⟩ else w
noncomputable def bodyOf (x : Int) : Str := addLet (((1 + x.fmod 7).fdiv 4).fmod 2 = 1) (addLet (((1 + x.fmod 7).fdiv 2).fmod 2 = 1) (addLet (((1 + x.fmod 7).fdiv 1).fmod 2 = 1) (hidOf x) (startOf x + 17)) (startOf x + 6)) (startOf x + 1)
noncomputable def wordOf (x : Int) : Str := if (x.fdiv 56).fmod 2 = 1 then Str.ofString "\"" ++ bodyOf x ++ Str.ofString "\"\n" else bodyOf x ++ Str.ofString "\n"
inductive PhiW (nn : Led) (w : Str) (k : Nat) (st : Int) (t2 t1 tx : Tok) (x : Int) (m' : Str → Option Value) (n' : Led) : Prop
  | mk (t : Nat) (v : Str) (u : Str → Option Value) (hn : n' = nn) (hv : v = w) (hl : v.length ≤ k) (hm : m' = fun y => if y = Str.ofString "word" then some (.str v t) else if y = Str.ofString "start" then some (.int st t2) else if y = Str.ofString "mask" then some (.int (1 + x.fmod 7) t1) else if y = Str.ofString "x" then some (.int x tx) else u y) : PhiW nn w k st t2 t1 tx x m' n'
theorem with_exec {M : Model} {A : Around} {st : Stmt} {env : Env} {Q : Flow → Shared → Prop} {E : Value → Shared → Prop} {s : Shared} (P : Model → Around → Stmt → Env → (Value → Shared → Prop) → Prop) (key : P M A st env E) (k : P M A st env E → wpAny M A (exec st env) Q E s) : wpAny M A (exec st env) Q E s := k key
theorem c_word {w : World} {p : Program} {loose : List Str} {mean : ExcName → Option Value} {mg mb : Str → Option Value} {A₀ : Around} {base h₀ : Heap} {outer : List Env} {cs : Scope} {L : Addr} {m : Str → Option Value} {s : Shared} {dp un : Nat} {gd : Option (List Code)} {cn : Str} {a : Addr} {ccd : Value} {cl : List (Str × Addr)} {rest : Led} {R : Result → Shared → Prop}
   {x : Int} {tx : Nat} (hr : PySem.Challenge.rw_to0079_01 = PySem.Challenge.rw_to0079_01)
   (C : Ctx (Khp w.params) p loose mean mg mb A₀ base h₀ outer cs L m s dp 3 un 20) (N : News h₀ L s.heap rest) (hx0 : 0 ≤ x) (hx1 : x < 1000000)
   (k : ∀ t h' tk', Fr h₀ L h' m → News h₀ L h' rest → R (.ok (.ret (.str (wordOf x) t))) {s with heap := h', toks := tk'}) :
   codeAny (model PySem.Challenge.pw_to0079_01 w) (ktrTop dp un gd cn cs L a ccd cl outer) (.call (.ref 175) ⟨[.int x tx], []⟩) R s := by
  revert hr C
  k_fill
  intro _ C
  refine' enterK (M := []) C N (fun _ _ h => nomatch h) ?k6 ?k7 ?k9 ?kB ?_ ?c5 ?c2 ?c3 ?c4
  case k6 => k_is
  case k7 => k_is
  case k9 => exact BindsTo.of_eq rfl
  case kB => exact locs rfl
  case c5 => decide
  case c2 => exact rfl
  case c3 => exact rfl
  case c4 => exact rfl
  have hd := C.hd
  have hu := C.hu
  have hke := C.hke
  clear C N
  intro g' L' h₁ tk₁ FG' F' N' B' st X' T' fr l1 vk ak
  clear st l1
  (try walk_at "red")
  walk_at "fold"
  have h1M : Halt "exec If" := trivial
  replace F' : Fr g' L' h₁ (fun y => if y = Str.ofString "x" then some (.int x tx) else none) := fr_congr F' (fun y => look1 y rfl)
  -- mask
  with_reducible refine cutS g' L' (fun m' n' => n' = [] ∧ ∃ t, m' = fun y => if y = Str.ofString "mask" then some (.int (1 + x.fmod 7) t) else if y = Str.ofString "x" then some (.int x tx) else none) ?_ ?_
  · (try walk_at "fold")
    k_steps
    exact post_ (by k_asm) (by k_asm) ⟨rfl, _, rfl⟩
  clear F' N' 
  rintro h1 tk1 m' n' F' N' rq1
  walk_at "open"
  obtain ⟨rfl, t1, rfl⟩ := rq1
  walk_at "shut"
  -- start
  with_reducible refine cutS g' L' (fun m' n' => n' = [] ∧ ∃ t v, v = startOf x ∧ m' = fun y => if y = Str.ofString "start" then some (.int v t) else if y = Str.ofString "mask" then some (.int (1 + x.fmod 7) t1) else if y = Str.ofString "x" then some (.int x tx) else none) ?_ ?_
  · (try walk_at "fold")
    k_steps
    all_goals (refine post_ (by k_asm) News.nil ⟨rfl, _, _, ?_, rfl⟩)
    all_goals (simp_all [startOf]; done)
  clear F' N'
  rintro h1 tk1 m' n' F' N' rq1
  walk_at "open"
  obtain ⟨rfl, t2, st, hst, rfl⟩ := rq1
  walk_at "shut"
  -- hidden
  with_reducible refine cutS g' L' (fun m' n' => n' = [] ∧ ∃ t v, v = hidOf x ∧ m' = fun y => if y = Str.ofString "hidden" then some (.str v t) else if y = Str.ofString "start" then some (.int st t2) else if y = Str.ofString "mask" then some (.int (1 + x.fmod 7) t1) else if y = Str.ofString "x" then some (.int x tx) else none) ?_ ?_
  · (try walk_at "fold")
    k_steps
    all_goals (refine post_ (by k_asm) News.nil ⟨rfl, _, _, ?_, rfl⟩)
    all_goals (simp_all [hidOf]; done)
  clear F' N'
  rintro h1 tk1 m' n' F' N' rq1
  walk_at "open"
  obtain ⟨rfl, t3, hi, hhi, rfl⟩ := rq1
  walk_at "shut"
  have hhl : hi.length ≤ 1 := by
    rw [hhi]; unfold hidOf; split
    · exact Nat.le_refl 1
    · decide
  have hs2 : 65 ≤ st ∧ st ≤ 119860 := by rw [hst]; unfold startOf; repeat' split
                                         all_goals lia
  -- word
  with_reducible refine cutS g' L' (fun m' n' => n' = [] ∧ ∃ t, m' = fun y => if y = Str.ofString "word" then some (.str hi t) else if y = Str.ofString "hidden" then some (.str hi t3) else if y = Str.ofString "start" then some (.int st t2) else if y = Str.ofString "mask" then some (.int (1 + x.fmod 7) t1) else if y = Str.ofString "x" then some (.int x tx) else none) ?_ ?_
  · (try walk_at "fold")
    k_steps
    all_goals (refine post_ (by k_asm) News.nil ⟨rfl, _, rfl⟩)
  clear F' N'
  rintro h1 tk1 m' n' F' N' rq1
  walk_at "open"
  obtain ⟨rfl, t4, rfl⟩ := rq1
  walk_at "shut"
  -- the loop
  with_reducible refine cutS g' L' (fun m' n' => n' = [] ∧ ∃ (t : Nat) (v : Str) (u : Str → Option Value), v = bodyOf x ∧ v.length ≤ 4 ∧ m' = fun y => if y = Str.ofString "word" then some (.str v t) else if y = Str.ofString "x" then some (.int x tx) else u y) ?_ ?_
  · have hpl : ∀ (q : Str) (c : Nat), (q ++ (⟨#[c]⟩ : Str)).length = q.length + 1 := fun q c => by show (q.cps ++ #[c]).size = _; rw [Array.size_append]; rfl
    (try walk_at "fold")
    (try refine (let m : Str → Option Value := _; have F' : Fr _ _ _ m := ‹Fr _ _ _ _›; ?_))
    have aM : Halt "pyIter ref" := trivial
    k_steps
    refine go_ ?_
    clear aM
    rename News _ _ _ _ => N0
    refine (let W : Led := _; have N0 : News g' L' _ W := N0; ?_)
    have aM : Halt "assign Tuple" := trivial
    k_steps
    refine go_ ?_
    clear aM
    (try walk_at "fold")
    (try refine (let m : Str → Option Value := _; have F' : Fr _ _ _ m := ‹Fr _ _ _ _›; ?_))
    k_steps
    refine go_ ?_
    refine with_exec (fun M A st_ env E => ∀ (pl bt : Int) (tp tb tw : Tok) (v : Str) (u : Str → Option Value) (nn : Led) (k : Nat) (hh : Heap) (tk : Nat), 0 ≤ pl → pl ≤ 17 → 1 ≤ bt → bt ≤ 4 → v.length ≤ k → k ≤ 3 →
      Fr g' L' hh (fun z => if z = Str.ofString "word" then some (.str v tw) else if z = Str.ofString "place" then some (.int pl tp) else if z = Str.ofString "bit" then some (.int bt tb) else if z = Str.ofString "start" then some (.int st t2) else if z = Str.ofString "mask" then some (.int (1 + x.fmod 7) t1) else if z = Str.ofString "x" then some (.int x tx) else u z) →
      News g' L' hh nn → wpAny M A (exec st_ env) (Post g' L' s (PhiW nn (addLet (((1 + x.fmod 7).fdiv bt).fmod 2 = 1) v (st + pl)) (k + 1) st t2 t1 tx x)) E { s with heap := hh, toks := tk }) ?key ?rest
    case key =>
      intro pl bt tp tb tw v u nn k hh tk hp0 hp1 hb0 hb1 hv hk F N
      have hbt : bt ≠ 0 := by lia
      have hv9 : v.length ≤ 100 := by lia
      refine wpAny_If ?_
      k_steps
      all_goals (refine post_ (fr1 (a := Str.ofString "word") (fr1 (a := Str.ofString "start") (fr1 (a := Str.ofString "mask") (fr1 (a := Str.ofString "x") (by k_asm) rfl) rfl) rfl) rfl) (by k_asm) ⟨_, _, _, rfl, ?_, ?_, rfl⟩)
      all_goals first | lia | (simp only [hpl]; lia) | skip
      all_goals (unfold addLet; split)
      all_goals first | rfl | contradiction
    intro key
    rename News _ _ _ _ => N0
    walk_at "open"
    obtain ⟨nn2, N9, hnn⟩ : ∃ nn, News g' L' _ nn ∧ nn = _ := ⟨_, N0, rfl⟩
    walk_at "shut"
    refine' cutQ g' L' (PhiW nn2 (addLet (((1 + x.fmod 7).fdiv 1).fmod 2 = 1) hi (st + 17)) 2 st t2 t1 tx x) ?ha0 ?hb0
    case ha0 => exact key 17 1 _ _ _ _ _ nn2 1 _ _ (by decide) (by decide) (by decide) (by decide) (by first | assumption | lia) (by decide) (fr1 (a := Str.ofString "word") (fr1 (a := Str.ofString "place") (fr1 (a := Str.ofString "bit") (fr1 (a := Str.ofString "start") (fr1 (a := Str.ofString "mask") (fr1 (a := Str.ofString "x") (by k_asm) rfl) rfl) rfl) rfl) rfl) rfl) N9
    rename Fr _ _ _ _ => F0
    clear N0 F0 N9
    rintro h6 tk6 m' n' F' N' rq1
    walk_at "open"
    obtain ⟨t6, v1, u1, rfl, hv1, hvl1, rfl⟩ := rq1
    walk_at "shut"
    rw [hnn] at N'
    clear hnn
    (try walk_at "fold")
    (try refine (let m : Str → Option Value := _; have F' : Fr _ _ _ m := ‹Fr _ _ _ _›; ?_))
    have aM : Halt "assign Tuple" := trivial
    k_steps
    refine go_ ?_
    clear aM
    (try walk_at "fold")
    (try refine (let m : Str → Option Value := _; have F' : Fr _ _ _ m := ‹Fr _ _ _ _›; ?_))
    k_steps
    refine go_ ?_
    rename News _ _ _ _ => N0
    walk_at "open"
    obtain ⟨nn3, N9, hnn⟩ : ∃ nn, News g' L' _ nn ∧ nn = _ := ⟨_, N0, rfl⟩
    walk_at "shut"
    refine' cutQ g' L' (PhiW nn3 (addLet (((1 + x.fmod 7).fdiv 2).fmod 2 = 1) v1 (st + 6)) 3 st t2 t1 tx x) ?ha1 ?hb1
    case ha1 => exact key 6 2 _ _ _ _ _ nn3 2 _ _ (by decide) (by decide) (by decide) (by decide) hvl1 (by decide) (fr1 (a := Str.ofString "word") (fr1 (a := Str.ofString "place") (fr1 (a := Str.ofString "bit") (fr1 (a := Str.ofString "start") (fr1 (a := Str.ofString "mask") (fr1 (a := Str.ofString "x") (by k_asm) rfl) rfl) rfl) rfl) rfl) rfl) N9
    rename Fr _ _ _ _ => F0
    clear N0 F0 N9
    rintro h7 tk7 m' n' F' N' rq1
    walk_at "open"
    obtain ⟨t7, v2, u2, rfl, hv2, hvl2, rfl⟩ := rq1
    walk_at "shut"
    rw [hnn] at N'
    clear hnn
    (try walk_at "fold")
    (try refine (let m : Str → Option Value := _; have F' : Fr _ _ _ m := ‹Fr _ _ _ _›; ?_))
    have aM : Halt "assign Tuple" := trivial
    k_steps
    refine go_ ?_
    clear aM
    (try walk_at "fold")
    (try refine (let m : Str → Option Value := _; have F' : Fr _ _ _ m := ‹Fr _ _ _ _›; ?_))
    k_steps
    refine go_ ?_
    rename News _ _ _ _ => N0
    walk_at "open"
    obtain ⟨nn4, N9, hnn⟩ : ∃ nn, News g' L' _ nn ∧ nn = _ := ⟨_, N0, rfl⟩
    walk_at "shut"
    refine' cutQ g' L' (PhiW nn4 (addLet (((1 + x.fmod 7).fdiv 4).fmod 2 = 1) v2 (st + 1)) 4 st t2 t1 tx x) ?ha2 ?hb2
    case ha2 => exact key 1 4 _ _ _ _ _ nn4 3 _ _ (by decide) (by decide) (by decide) (by decide) hvl2 (by decide) (fr1 (a := Str.ofString "word") (fr1 (a := Str.ofString "place") (fr1 (a := Str.ofString "bit") (fr1 (a := Str.ofString "start") (fr1 (a := Str.ofString "mask") (fr1 (a := Str.ofString "x") (by k_asm) rfl) rfl) rfl) rfl) rfl) rfl) N9
    rename Fr _ _ _ _ => F0
    clear N0 F0 N9
    rintro h8 tk8 m' n' F' N' rq1
    walk_at "open"
    obtain ⟨t8, v3, u3, rfl, hv3, hvl3, rfl⟩ := rq1
    walk_at "shut"
    rw [hnn] at N'
    clear hnn
    (try walk_at "fold")
    (try refine (let m : Str → Option Value := _; have F' : Fr _ _ _ m := ‹Fr _ _ _ _›; ?_))
    k_steps
    refine post_ (fr1 (a := Str.ofString "word") (fr1 (a := Str.ofString "x") (by k_asm) rfl) rfl) News.nil ⟨rfl, _, _, _, ?_, hvl3, rfl⟩
    rw [hv3, hv2, hv1, hhi, hst]; rfl
  clear F' N'
  rintro h1 tk1 m' n' F' N' rq1
  walk_at "open"
  obtain ⟨rfl, t5, v, u, hv, hvl, rfl⟩ := rq1
  walk_at "shut"
  have hw : ((x.fdiv 56).fmod 2 = 1 → wordOf x = Str.ofString "\"" ++ v ++ Str.ofString "\"\n") ∧ ((x.fdiv 56).fmod 2 ≠ 1 → wordOf x = v ++ Str.ofString "\n") := by
    refine ⟨fun h => ?_, fun h => ?_⟩ <;> simp [wordOf, h, hv]
  (try walk_at "fold")
  (try refine (let m : Str → Option Value := _; have F' : Fr _ _ _ m := ‹Fr _ _ _ _›; ?_))
  k_steps
  all_goals ((try k_unfold); refine leaveM_ (M' := []) (by k_asm) News.nil (fun F N => ?_))
  all_goals (refine Eq.mp (congrArg (fun z => R (.ok (.ret (.str z _))) _) ?_) (k _ _ _ F N))
  all_goals first | exact hw.1 (by assumption) | exact hw.2 (by assumption) | skip
end Mine

end
section
open PySem.Spec PyProof.V PySem PySem.W PySem.W.X PyProof.Rows PySem.Calls
namespace Mine
theorem store_at {M : Model} {A : Around} {E : Value → Shared → Prop} {s : Shared} {h₀ : Heap} {L : Addr} {m : Str → Option Value} {env : Env} {x : Str} {v : Value} {Q : Unit → Shared → Prop} {all : Led} (i : Nat) {c : Addr} {o : Obj} {v₀ : Option Value}
    (F : Fr h₀ L s.heap m) (N : News h₀ L s.heap all) (hi : all[i]? = some (c, o)) (hc : env.cells.lookup x = some c) (hd : o.data = .cell v₀) (hn : ∀ p ∈ all.eraseIdx i, p.1 ≠ c ∨ NotCell p.2)
    (h : ∀ h' o', Fr h₀ L h' m → News h₀ L h' ((c, o') :: all.eraseIdx i) → o'.data = .cell (some v) → Q () { s with heap := h' })
    (hk : env.scope.kind = .function) (hx : env.kindOf x = some .cell) : wpAny M A (storeName env x v) Q E s :=
  store_nc F N (fun p hp => by
    rcases List.mem_cons.mp hp with rfl | hp
    · exact List.mem_of_getElem? hi
    · exact List.mem_of_mem_eraseIdx hp) hc hd hn h hk hx
theorem notCell_list {vs : Array Value} {n : Nat} : NotCell (W.listOf vs n) := fun v h => by simp [W.listOf] at h
theorem notCell_seq {c : Value} {vs : Array Value} {n : Nat} : NotCell { cls := c, data := .seq vs n } := fun v h => by cases h
theorem notCell_tab {vs : Array Value} : NotCell (tabObj vs) := fun v h => by simp [tabObj, W.listOf] at h
noncomputable def JWd (base : Led) (xs : List Int) (i : Nat) (ys : List Value) (nw : Led) : Prop := Has base nw ∧ StrsAre ys ((xs.take i).map wordOf)
theorem take_wordOf {xs : List Int} {i : Nat} {x : Int} (h : xs[i]? = some x) : (xs.take (i + 1)).map wordOf = (xs.take i).map wordOf ++ [wordOf x] := by
  rw [List.take_succ, h, Option.toList_some, List.map_append]; rfl
noncomputable def textOf (xs : List Int) : List Nat := ((xs.map wordOf).map fun x => x.cps.toList).flatten
noncomputable def mk7 (x : Int) : Int := 1 + x.fmod 7
noncomputable def lkOf (x : Int) : List Nat := (if ((mk7 x).fdiv 1).fmod 2 = 1 then [114] else []) ++ (if ((mk7 x).fdiv 2).fmod 2 = 1 then [103] else []) ++ (if ((mk7 x).fdiv 4).fmod 2 = 1 then [98] else [])
inductive TextOk (S : Int → Bool) (D : List (PyData × PyData)) (xs : List Int) : Prop
  | mk (ln lnl : Nat) (ws : List (List Nat)) (rs : List Nat) (fold : Nat → Option Nat) (x0 : Lxs (textOf xs) ln ws rs) (x1 : ws.length = 6) (x2 : (textOf xs).length ≤ 60) (x3 : Lx rs lnl [] []) (x4 : ln + lnl = 6) (x5 : (∀ wd ∈ ws, ∀ c ∈ wd, FoldsTo S D fold c)) (x6 : ws.map (fun wd => wd.filterMap fold) = xs.map lkOf) : TextOk S D xs
noncomputable def TextAll (S : Int → Bool) (D : List (PyData × PyData)) : Prop := ∀ xs : List Int, xs.length = 6 → (∀ x ∈ xs, 0 ≤ x ∧ x < 1000000) → TextOk S D xs
noncomputable def DinOk (b hosts : Nat) (xs : List Int) : Prop :=
  ((dinner b hosts (xs.map lkOf)).earned.sum + (dinner b hosts (xs.map lkOf)).kept.sum = (hosts : Int) * (3 * (b : Int) - ((dinner b hosts (xs.map lkOf)).names.length : Nat))) ∧
  (dinner b hosts (xs.map lkOf)).names.length ≤ 3 * b ∧ (dinner b hosts (xs.map lkOf)).earned.length = 3 ∧ (dinner b hosts (xs.map lkOf)).kept.length = 6 ∧
  (∀ e ∈ (dinner b hosts (xs.map lkOf)).earned, 0 ≤ e ∧ e ≤ 100) ∧ (∀ e ∈ (dinner b hosts (xs.map lkOf)).kept, 0 ≤ e ∧ e ≤ 100) ∧
  (∀ i k : Nat, ∀ x, xs[i]? = some x → ∀ c, RGB[k]? = some c → c ∈ lkOf x → ∀ e q, (dinner b hosts (xs.map lkOf)).earned[k]? = some e → (dinner b hosts (xs.map lkOf)).kept[i]? = some q → (b : Int) * ((hosts : Int) - ((b ^ b : Nat) : Int)) ≤ e + (b : Int) * q) ∧
  (∀ v, v ∈ cutsTo (xs.map mk7) b 8 → (∀ a ∈ cutsTo (xs.map mk7) b 8, v ≤ a) → 0 ≤ v ∧ v ≤ 100 ∧ (((hosts : Int) - ((b ^ b : Nat) : Int)) * v + (hosts : Int) - 1).fdiv (hosts : Int) ≤ 3 * (b : Int) - ((dinner b hosts (xs.map lkOf)).names.length : Nat))
noncomputable def DinAll : Prop := ∀ (b hosts : Nat) (xs : List Int), BH b hosts → xs.length = 6 → DinOk b hosts xs
theorem lkOf_LK (x : Int) : lkOf x ∈ LK := by
  unfold lkOf
  split <;> split <;> split <;> decide
end Mine
namespace Mine
theorem flat_len (l : List Str) : ((l.map fun x => x.cps.toList).flatten).length = (l.map (·.length)).sum := by
  induction l with
  | nil => rfl
  | cons a l ih => simp only [List.map_cons, List.flatten_cons, List.length_append, List.sum_cons, ih]; rfl
theorem text_weight {xs : List Int} (h6 : xs.length = 6) (h : (textOf xs).length ≤ 60) : ((xs.map wordOf).map (·.length)).sum + (xs.map wordOf).length ≤ 1048576 := by
  rw [← flat_len, List.length_map]
  show (textOf xs).length + _ ≤ _
  lia
end Mine
namespace Mine
theorem news_pick {h₀ h : Heap} {L : Addr} {all : Led} {x : Addr × Obj} (i : Nat) (N : News h₀ L h all) (hi : all[i]? = some x) : News h₀ L h ([x] ++ all.eraseIdx i) := news_sub N fun p hp => by
  rcases List.mem_cons.mp hp with rfl | hp
  · exact List.mem_of_getElem? hi
  · exact List.mem_of_mem_eraseIdx hp
theorem hap_of {h₀ h : Heap} {L : Addr} {all rest M : Led} (N : News h₀ L h all) (hr : ∀ q ∈ rest, q ∈ all) (hm : ∀ p ∈ M, p ∈ all) (hh : ∀ q ∈ rest, ∀ p ∈ M, q.2 ≠ p.2 ∨ q.1 ≠ p.1) : ∀ q ∈ rest, q.1 ∉ M.map (·.1) := fun q hq hx => by
  walk_at "open"
  obtain ⟨p, hp, e⟩ := List.mem_map.mp hx
  walk_at "shut"
  rcases hh q hq p hp with z | z
  · have h1 := (N q (hr q hq)).1
    have h2 := (N p (hm p hp)).1
    rw [← e, h2] at h1
    injection h1 with h1
    exact z h1.symm
  · exact z e.symm
theorem hap_of' {h₀ h : Heap} {L : Addr} {rest M : Led} (N : News h₀ L h (M ++ rest)) (hh : ∀ q ∈ rest, ∀ p ∈ M, q.2 ≠ p.2 ∨ q.1 ≠ p.1) : ∀ q ∈ rest, q.1 ∉ M.map (·.1) :=
  hap_of N (fun _ h => List.mem_append_right _ h) (fun _ h => List.mem_append_left _ h) hh
theorem cell_ne_code {o o' : Obj} {v : Option Value} {q : Str} (h : o.data = .cell v) (h' : codeHas o' q) : o ≠ o' := fun e => by
  walk_at "open"
  obtain ⟨_, _, h1, _⟩ := h'
  walk_at "shut"
  rw [← e, h] at h1
  cases h1
theorem seq_ne_code {cls : Value} {vs : Array Value} {n : Nat} {o' : Obj} {q : Str} (h' : codeHas o' q) : ({ cls := cls, data := .seq vs n } : Obj) ≠ o' := fun e => by
  walk_at "open"
  obtain ⟨_, _, h1, _⟩ := h'
  walk_at "shut"
  rw [← e] at h1
  cases h1
theorem cell_ne_seq {cls : Value} {vs : Array Value} {n : Nat} {o : Obj} {v : Option Value} (h : o.data = .cell v) : o ≠ ({ cls := cls, data := .seq vs n } : Obj) := fun e => by
  rw [e] at h
  cases h
theorem cell_ne_tab {ps : Array Value} {o : Obj} {v : Option Value} (h : o.data = .cell v) : o ≠ tabObj ps := fun e => by
  rw [e] at h
  cases h
end Mine
namespace Mine
theorem hap_own {h₀ h : Heap} {L : Addr} {k : Mch} {P : Params} {line : Int} {tl : Tok} {push : List Value} {pn : Nat} {pos : Int} {tp : Tok} {text : Str} {c1 c2 : Addr} {o1 o2 : Obj} {rest : Led} (hk : Mch.Ok k text)
    (N : News h₀ L h (k.own P line tl push pn pos tp ++ tabLed c1 c2 o1 o2 ++ rest)) (ho : ∀ q ∈ rest, ∀ p ∈ k.own P line tl push pn pos tp, q.1 ≠ p.1)
    (hh : ∀ q ∈ rest, ∀ p ∈ tabLed c1 c2 o1 o2, q.2 ≠ p.2 ∨ q.1 ≠ p.1) : ∀ q ∈ rest, q.1 ∉ (k.own P line tl push pn pos tp ++ tabLed c1 c2 o1 o2).map (·.1) := fun q hq hx => by
  rw [List.map_append, List.mem_append] at hx
  rcases hx with hx | hx
  · walk_at "open"
    obtain ⟨p, hp, e⟩ := List.mem_map.mp hx
    walk_at "shut"
    exact ho q hq p hp e.symm
  · exact hap_of N (fun _ h => List.mem_append_right _ h) (fun _ h => List.mem_append_left _ (List.mem_append_right _ h)) hh q hq hx
theorem lt_own {k : Mch} {P : Params} {line : Int} {tl : Tok} {push : List Value} {pn : Nat} {pos : Int} {tp : Tok} {text : Str} {rest : Led} (hk : Mch.Ok k text) (h : ∀ q ∈ rest, @LT.lt Nat _ q.1 k.ct) : ∀ q ∈ rest, ∀ p ∈ k.own P line tl push pn pos tp, q.1 ≠ p.1 := fun q hq p hp e => by
  have h1 := h q hq
  exact Nat.not_lt.mpr (own_ge hk p hp) (e ▸ h1)
end Mine
namespace Mine
noncomputable def Slim (o : Obj) : Prop := ∀ vs n, o.data = .seq vs n → vs = #[] ∨ ∃ p t, vs = #[.int p t]
theorem own_slim {k : Mch} {P : Params} {line : Int} {tl : Tok} {pn : Nat} {pos : Int} {tp : Tok} {text : Str} (hk : Mch.Ok k text) : ∀ p ∈ k.own P line tl [] pn pos tp, Slim p.2 := by
  unfold Mch.own
  refine (fcons ?_ (fcons ?_ (fcons ?_ (fcons ?_ (fcons ?_ (fcons ?_ (fcons ?_ (fcons ?_ (fcons ?_ (fun _ h => nomatch h))))))))))
  all_goals (intro vs n h; dsimp only at h)
  · injection h with h; exact .inl h.symm
  · cases h
  · cases h
  · cases h
  · cases h
  · cases h
  · injection h with h; exact .inr ⟨_, _, h.symm⟩
  · rw [hk.ca] at h; cases h
  · rw [hk.ct] at h; cases h
theorem slim_ne {h₀ h : Heap} {L : Addr} {all X : Led} {a : Addr} {cls : Value} {vs : Array Value} {n : Nat} (hX : ∀ p ∈ X, Slim p.2) (N : News h₀ L h all) (hs : ∀ p ∈ X, p ∈ all) (ha : (a, ({ cls := cls, data := .seq vs n } : Obj)) ∈ all) (h1 : vs ≠ #[]) (h2 : ∀ p t, vs ≠ #[.int p t]) : ∀ p ∈ X, @Ne Nat p.1 a := fun p hp e => by
  have z1 := (N p (hs p hp)).1
  have z2 := (N _ ha).1
  dsimp only at z2
  rw [show p.1 = a from e, z2] at z1
  injection z1 with z1
  rcases hX p hp vs n (by rw [← z1]) with q | ⟨_, _, q⟩
  · exact h1 q
  · exact h2 _ _ q
theorem strs_ne {gs : List Value} {xs : List Str} (h : StrsAre gs xs) (hl : xs.length = 6) : gs.toArray ≠ #[] ∧ ∀ p t, gs.toArray ≠ #[.int p t] := by
  constructor
  · intro e
    have := h.length
    rw [show gs = [] from by simpa using e] at this
    simp at this; lia
  · intro p t e
    have := h.length
    rw [show gs = [.int p t] from by simpa using e] at this
    simp at this; lia
end Mine
namespace Mine
theorem notCell_code {o : Obj} {q : Str} (h : codeHas o q) : NotCell o := fun v hv => by
  walk_at "open"
  obtain ⟨_, _, h1, _⟩ := h
  walk_at "shut"
  rw [hv] at h1
  cases h1
end Mine

end
section
open PySem PySem.W PySem.W.X PyProof.Rows PySem.Calls PySem.Spec PyProof.V PyProof.Rows.LCg
namespace Mine
theorem newEnv_one {M : Model} {A : Around} {E : Value → Shared → Prop} {s : Shared} {scope : Scope} {gl : Addr} {qual : Str} {env : Env} {n0 x n2 : Str} {Q : Env → Shared → Prop} (hn : scope.names = [(n0, .local), (x, .cell), (n2, .globalImplicit)])
    (h : Q { scope, locals := s.heap.objs.size, globals := gl, cells := [(x, s.heap.objs.size + 1)], qual := qual, func := none, code := env.code, frame := env.frame, builtins := env.builtins } { s with heap := (s.heap.push { cls := .type "dict", data := .dict #[] }).push { cls := .type "cell", data := .cell none } }) :
    wpAny M A (newFunctionEnv scope gl [] [] qual none .none (some env)) Q E s := by
  simp only [newFunctionEnv, Option.isSome_some, if_true, hn, List.forIn_cons, List.forIn_nil]
  refine wpAny_bind (wpAny_alloc ?_)
  refine wpAny_bind ?_
  refine wpAny_bind ?_
  rw [if_neg (by decide)]
  refine wpAny_pure ?_
  refine wpAny_bind ?_
  rw [if_pos (by decide)]
  refine wpAny_bind (wpAny_alloc ?_)
  refine wpAny_pure ?_
  refine wpAny_bind ?_
  rw [if_neg (by decide)]
  refine wpAny_pure ?_
  refine wpAny_pure ?_
  refine wpAny_bind (wpAny_pure (wpAny_pure ?_))
  have e : (s.heap.push { cls := .type "dict", data := .dict #[] }).objs.size = s.heap.objs.size + 1 := Heap.size_push ..
  dsimp only
  rw [e]
  exact h
inductive CompEndC (h₀ : Heap) (L : Addr) (m : Str → Option Value) (s₁ : Shared) (I : Addr) (oI : Obj) (C : Addr) (oC : Obj) (D : Addr) (oD : Obj) (c : Addr) (oc : Obj) (S : Led → Prop) (rest : Value → Led → Prop) (y : Value) (s₂ : Shared) : Prop
  | mk (h' : Heap) (tk : Nat) (news' : Led) (e : s₂ = { s₁ with heap := h', toks := tk }) (F : Fr h₀ L h' m) (N : News h₀ L h' ((I, oI) :: (C, oC) :: (D, oD) :: (c, oc) :: news')) (of : Off3 I C D ((c, oc) :: news')) (hc : ∀ p ∈ news', @Ne Nat p.1 c) (hS : S news') (hr : rest y news') : CompEndC h₀ L m s₁ I oI C oC D oD c oc S rest y s₂
noncomputable def CompRestC (prog : Program) (w : World) (A : Around) (h₀ : Heap) (L : Addr) (m : Str → Option Value) (env : Env) (elt : Expr) (x : Str) (scope : Scope) (s : Shared) (S : Led → Prop) (P : Nat → Value → Prop)
    (Fin : List Value → Led → Prop) : Nat → Nat → List Value → Led → Prop
  | 0, _, ys, news => Fin ys news
  | k + 1, i, ys, news => ∀ v I oI C oC D c oc h tk (E' : Value → Shared → Prop), P i v → oc.data = .cell (some v) → Fr h₀ L h m → News h₀ L h ((I, oI) :: (C, oC) :: (D, lst ys) :: (c, oc) :: news) → Off3 I C D ((c, oc) :: news) → (∀ p ∈ news, @Ne Nat p.1 c) → ((@Ne Nat I C) ∧ (@Ne Nat I D) ∧ (@Ne Nat C D)) →
      wpAny (model prog w) A (eval elt (compEnvC scope [(x, c)] C env)) (CompEndC h₀ L m { s with heap := h, toks := tk } I oI C oC D (lst ys) c oc S (fun y news' => CompRestC prog w A h₀ L m env elt x scope s S P Fin k (i + 1) (ys ++ [y]) news')) E' { s with heap := h, toks := tk }
theorem compEndC_mono {h₀ : Heap} {L : Addr} {m : Str → Option Value} {s₁ : Shared} {I : Addr} {oI : Obj} {C : Addr} {oC : Obj} {D : Addr} {oD : Obj} {c : Addr} {oc : Obj} {S : Led → Prop} {r r' : Value → Led → Prop} {y : Value} {s₂ : Shared}
    (x : CompEndC h₀ L m s₁ I oI C oC D oD c oc S r y s₂) (h : ∀ y n, r y n → r' y n) : CompEndC h₀ L m s₁ I oI C oC D oD c oc S r' y s₂ :=
  let ⟨h', tk, n, e, F, N, o, oc, hS, hr⟩ := x; ⟨h', tk, n, e, F, N, o, oc, hS, h _ _ hr⟩
section
variable {prog : Program} {w : World} {A : Around} {E : Value → Shared → Prop} {s : Shared} {h₀ : Heap} {L : Addr} {m : Str → Option Value} {env : Env}
theorem compC_all {elt : Expr} {x : Str} {scope : Scope} {s : Shared} {S : Led → Prop} {P : Nat → Value → Prop} {Fin : List Value → Led → Prop} (J : Nat → List Value → Led → Prop) (n : Nat)
    (step : ∀ i ys news v I oI C oC D c oc h tk (E' : Value → Shared → Prop), i < n → P i v → J i ys news → oc.data = .cell (some v) → Fr h₀ L h m → News h₀ L h ((I, oI) :: (C, oC) :: (D, lst ys) :: (c, oc) :: news) → Off3 I C D ((c, oc) :: news) → (∀ p ∈ news, @Ne Nat p.1 c) → ((@Ne Nat I C) ∧ (@Ne Nat I D) ∧ (@Ne Nat C D)) →
      wpAny (model prog w) A (eval elt (compEnvC scope [(x, c)] C env)) (CompEndC h₀ L m { s with heap := h, toks := tk } I oI C oC D (lst ys) c oc S (fun y news' => J (i + 1) (ys ++ [y]) news')) E' { s with heap := h, toks := tk })
    (fin : ∀ ys news, J n ys news → Fin ys news) : ∀ {k i : Nat} {ys : List Value} {news : Led}, i + k = n → J i ys news → CompRestC prog w A h₀ L m env elt x scope s S P Fin k i ys news
  | 0, i, ys, news, e, h => by
    obtain rfl : i = n := e
    exact fin _ _ h
  | k + 1, i, ys, news, e, h => fun v I oI C oC D c oc h' tk E' hP hd F N off hc ne =>
    wpAny_mono (step i ys news v I oI C oC D c oc h' tk E' (by lia) hP h hd F N off hc ne) (fun _ _ z => compEndC_mono z fun _ _ q => compC_all J n step fin (by lia) q) fun _ _ e => e
inductive BCi (prog : Program) (w : World) (A : Around) (h₀ : Heap) (L : Addr) (m : Str → Option Value) (env : Env) (elt : Expr) (x : Str) (scope : Scope) (s₂ : Shared) (S : Led → Prop) (P : Nat → Value → Prop) (Fin : List Value → Led → Prop) (I C D c : Addr) (n : Nat) (St : Nat → Heap → Prop) (k : Nat) (s' : Shared) : Prop
  | mk (h' : Heap) (tk i : Nat) (ys : List Value) (m' : Str → Option Value) (news' : Led) (oc : Obj) (v₀ : Option Value) (e : s' = { s₂ with heap := h', toks := tk }) (hi : i ≤ n) (hk : k = n + 1 - i) (hy : ys.length = i) (st : St i h') (F : Fr h₀ L h' m) (ns : h'.Ns C m') (N : News h₀ L h' ((D, lst ys) :: (c, oc) :: news')) (hc : oc.data = .cell v₀)
      (of : Off3 I C D ((c, oc) :: news')) (hn : ∀ p ∈ news', @Ne Nat p.1 c) (hS : S news') (R : CompRestC prog w A h₀ L m env elt x scope s₂ S P Fin (n - i) i ys news') : BCi prog w A h₀ L m env elt x scope s₂ S P Fin I C D c n St k s'
theorem block_C {elt iter : Expr} {x n0 n2 : Str} {px : Pos} {scope : Scope} {pos : Pos} {s₂ : Shared} {I : Addr} {fp : List Addr} {n : Nat} {P : Nat → Value → Prop} {St : Nat → Heap → Prop} {S : Led → Prop} {news : Led}
    {Fin : List Value → Led → Prop} {RR : Value → Addr → Result → Shared → Prop}
    (W : Walks prog w A I fp [I] n P St) (hsz : n ≤ sizeLine) (hIo : ∀ i h, St i h → ∃ o, h.get? I = some o)
    (hSt : ∀ i h h' o nw, St i h → h.get? I = some o → h'.get? I = some o → (∀ b o, h₀.get? b = some o → h'.get? b = some o) → News h₀ L h' nw → S nw → St i h')
    (hnames : scope.names = [(n0, .local), (x, .cell), (n2, .globalImplicit)]) (hx0 : (x == n0) = false) (hkind : scope.kind = .function) (hst : St 0 s₂.heap) (hfp : ∀ b ∈ fp, b < s₂.heap.objs.size)
    (F : Fr h₀ L s₂.heap m) (N : News h₀ L s₂.heap news) (hIL : L ≠ I) (hI₀ : h₀.get? I = none) (off : ∀ p ∈ news, p.1 ≠ I) (hS : S news)
    (R : CompRestC prog w A h₀ L m env elt x scope s₂ S P Fin n 0 [] news)
    (hRR : ∀ D C h tk m' ys news', Fr h₀ L h m → News h₀ L h ((D, lst ys) :: news') → Off1 D news' → h.Ns C m' → h₀.get? C = none → h₀.get? D = none → C ≠ L → D ≠ L → C ≠ D → (∀ p ∈ news', p.1 ≠ C) → Fin ys news' → RR (.ref D) C (.ok .next) { s₂ with heap := h, toks := tk }) :
    wpAny (model prog w) A (newList []) (fun acc s₃ => wpAny (model prog w) A (newFunctionEnv scope env.globals [] [] env.qual none .none (some env)) (fun cenv s₄ =>
      codeAny (model prog w) A (.compStart (.ListComp elt [⟨.Name x px, iter, [], 0⟩] scope pos) 0 (.ref I) acc { cenv with scope := relabel scope env }) (RR acc cenv.locals) s₄) E s₃) E s₂ := by
  refine wpAny_newObj_type (newEnv_one hnames ?_)
  dsimp only
  generalize hH2 : s₂.heap.push { cls := .type "list", dict := none, data := .seq ([] : List Value).toArray } = H2
  have hC : H2.objs.size = s₂.heap.objs.size + 1 := by rw [← hH2, Heap.size_push]
  generalize hh₁ : (H2.push { cls := .type "dict", data := .dict #[] }).push { cls := .type "cell", data := .cell none } = h₁
  have hc1 : (H2.push { cls := .type "dict", data := .dict #[] }).objs.size = H2.objs.size + 1 := Heap.size_push ..
  have hDC : s₂.heap.objs.size ≠ H2.objs.size := by rw [hC]; exact Nat.ne_of_lt (Nat.lt_succ_self _)
  walk_at "open"
  obtain ⟨c, hcE⟩ : ∃ c : Nat, c = H2.objs.size + 1 := ⟨_, rfl⟩
  walk_at "shut"
  have below : ∀ b, b < s₂.heap.objs.size → b ≠ H2.objs.size ∧ b ≠ s₂.heap.objs.size := fun b hb => ⟨by rw [hC]; exact Nat.ne_of_lt (Nat.lt_succ_of_lt hb), Nat.ne_of_lt hb⟩
  have belowc : ∀ b, b < s₂.heap.objs.size → @Ne Nat b c := fun b hb => by rw [hcE, hC]; lia
  have hDf : s₂.heap.objs.size ∉ fp := fun hm => Nat.lt_irrefl _ (hfp _ hm)
  have hCf : H2.objs.size ∉ fp := fun hm => by have := hfp _ hm; rw [hC] at this; exact Nat.lt_irrefl _ (Nat.lt_of_succ_lt this)
  have hcf : c ∉ fp := fun hm => belowc _ (hfp _ hm) rfl
  have hIf : I ∈ fp := W.sub I (List.mem_singleton.mpr rfl)
  have hIlt : I < s₂.heap.objs.size := hfp I hIf
  have old2 : ∀ b o, H2.get? b = some o → h₁.get? b = some o := fun b o e => by rw [← hh₁]; exact Heap.get?_push_of_some _ (Heap.get?_push_of_some _ e)
  have old : ∀ b o, s₂.heap.get? b = some o → h₁.get? b = some o := fun b o e => old2 b o (hH2 ▸ Heap.get?_push_of_some _ e)
  have hns₁ : ∃ m₁, h₁.Ns H2.objs.size m₁ := ⟨_, by rw [← hh₁]; exact (Heap.Ns.new H2 (.type "dict")).keeps fun b o e => Heap.get?_push_of_some _ e⟩
  obtain ⟨m₁, hns₁⟩ := hns₁
  have hcc : h₁.get? c = some { cls := .type "cell", data := .cell none } := by rw [← hh₁, hcE, ← hc1]; exact Heap.get?_push_size _ rfl
  have hacc : h₁.get? s₂.heap.objs.size = some (lst []) := old2 _ _ (hH2 ▸ Heap.get?_push_size _ rfl)
  have hst₁ : St 0 h₁ := W.frame _ _ _ hst fun b _ o e => old b o e
  have fresh : ∀ a, s₂.heap.objs.size ≤ a → s₂.heap.get? a = none := fun a ha => by
    cases e : s₂.heap.get? a with
    | none => rfl
    | some o' => exact absurd (Heap.lt_size e) (Nat.not_lt.mpr ha)
  have fresh₀ : ∀ a, s₂.heap.objs.size ≤ a → h₀.get? a = none := fun a ha => by
    cases e : h₀.get? a with
    | none => rfl
    | some o' => have := F.keep a o' e; rw [fresh a ha] at this; cases this
  have hD₀ : h₀.get? s₂.heap.objs.size = none := fresh₀ _ (Nat.le_refl _)
  have hC₀ : h₀.get? H2.objs.size = none := fresh₀ _ (by rw [hC]; exact Nat.le_succ _)
  have hc₀ : h₀.get? c = none := fresh₀ _ (by rw [hcE, hC]; exact Nat.le_trans (Nat.le_succ _) (Nat.le_succ _))
  have hLlt : L < s₂.heap.objs.size := F.ns.lt
  have hDL : s₂.heap.objs.size ≠ L := Ne.symm (below L hLlt).2
  have hCL : H2.objs.size ≠ L := Ne.symm (below L hLlt).1
  have hcL : c ≠ L := Ne.symm (belowc L hLlt)
  have hCI : I ≠ H2.objs.size := (below I hIlt).1
  have hDI : I ≠ s₂.heap.objs.size := (below I hIlt).2
  have hcI : I ≠ c := belowc I hIlt
  have hcC : c ≠ H2.objs.size := by rw [hcE]; exact Nat.succ_ne_self _
  have hcD : c ≠ s₂.heap.objs.size := fun q => by have q' : @Eq Nat c s₂.heap.objs.size := q; rw [hcE, hC] at q'; lia
  have off₀ : Off3 I H2.objs.size s₂.heap.objs.size ((c, { cls := .type "cell", data := .cell none }) :: news) := Off3.of fun p hp => by
    rcases List.mem_cons.mp hp with rfl | hp
    · exact ⟨Ne.symm hcI, hcC, hcD⟩
    · exact ⟨off p hp, (below _ (Heap.lt_size (N p hp).1)).1, (below _ (Heap.lt_size (N p hp).1)).2⟩
  have offc₀ : ∀ p ∈ news, @Ne Nat p.1 c := fun p hp => belowc _ (Heap.lt_size (N p hp).1)
  rw [show ({ scope := relabel scope env, locals := H2.objs.size, globals := env.globals, cells := [(x, H2.objs.size + 1)], qual := env.qual, func := none, code := env.code, frame := env.frame, builtins := env.builtins } : Env) = compEnvC scope [(x, c)] H2.objs.size env from by rw [hcE]; rfl]
  have loop : ∀ s₃ : Shared, s₃ = { s₂ with heap := h₁ } →
      codeAny (model prog w) A (.compLoop (.ListComp elt [⟨.Name x px, iter, [], 0⟩] scope pos) 0 (.ref I) (.ref s₂.heap.objs.size) (compEnvC scope [(x, c)] H2.objs.size env))
        (RR (.ref s₂.heap.objs.size) H2.objs.size) s₃ := by
    rintro s₃ rfl
    refine codeAny_compLoop_tests
      (BCi prog w A h₀ L m env elt x scope s₂ S P Fin I H2.objs.size s₂.heap.objs.size c n St) ?_ (n + 1)
      ⟨h₁, _, 0, [], _, news, _, _, rfl, Nat.zero_le _, rfl, rfl, hst₁, F.keeps old, hns₁, fun p hp => ?_, rfl, off₀, offc₀, hS, R⟩
    · rintro k s' rq1
      walk_at "open"
      obtain ⟨h', tk, i, ys, m', news', oc, v₀, rfl, hi, rfl, hyl, hst', F', hn', N', hcd, off', offc, hS', R'⟩ := rq1
      walk_at "shut"
      have off3 := off'.mem
      by_cases hlt : i < n
      · walk_at "open"
        obtain ⟨j, hj⟩ : ∃ j, n - i = j + 1 := ⟨n - i - 1, sub_suc hlt⟩
        walk_at "shut"
        rw [hj] at R'
        refine W.item i _ _ _ hlt hst' fun v h₂ tk₂ hPv hst₂ hk₂ => ?_
        have N₂ : News h₀ L h₂ ((s₂.heap.objs.size, lst ys) :: (c, oc) :: news') := news_but N' hk₂ fun p hp => by
          rcases List.mem_cons.mp hp with rfl | hp
          · exact Ne.symm hDI
          · exact (off3 p hp).1
        refine wpAny_assign_Name (wpAny_storeName_cell (c := c) (v₀ := v₀) (by simp [compEnvC, relabel, hkind]) (by simp [Env.kindOf, compEnvC, relabel, hnames]; simp only [List.lookup_cons, hx0, beq_self_eq_true]) (by simp [compEnvC]) ⟨oc, (N₂ (c, oc) (List.mem_cons_of_mem _ List.mem_cons_self)).1, hcd⟩ (fun h₃ hv₃ hs₃ => ?_))
        refine wpAny_tests_nil ?_
        simp only [if_true]
        walk_at "open"
        obtain ⟨oc', heC', hcd'⟩ := hv₃
        walk_at "shut"
        have hst₃ : St (i + 1) h₃ := W.frame _ _ _ hst₂ fun b hb o e => hs₃.extBut b o (fun q => hcf (by have q' : b = c := q; rw [← q']; exact hb)) e
        obtain ⟨oI, heI⟩ := hIo _ _ hst₃
        have hn₃ : h₃.Ns H2.objs.size m' := hn'.at' fun o e => hs₃.extBut _ _ (Ne.symm hcC) (hk₂ _ o (by simpa using Ne.symm hCI) e)
        walk_at "open"
        obtain ⟨oC, heC, hoC⟩ := ns_obj hn₃
        walk_at "shut"
        have F₃ : Fr h₀ L h₃ m := (fr_but F' hk₂ hIL hI₀).change hs₃ hcL hc₀
        have N₃ : News h₀ L h₃ ((I, oI) :: (H2.objs.size, oC) :: (s₂.heap.objs.size, lst ys) :: (c, oc') :: news') := fun p hp => by
          rcases List.mem_cons.mp hp with rfl | hp
          · exact ⟨heI, Ne.symm hIL, hI₀⟩
          · rcases List.mem_cons.mp hp with rfl | hp
            · exact ⟨heC, hCL, hC₀⟩
            · rcases List.mem_cons.mp hp with rfl | hp
              · have z := N₂ _ List.mem_cons_self
                exact ⟨hs₃.extBut _ _ (Ne.symm hcD) z.1, z.2⟩
              · rcases List.mem_cons.mp hp with rfl | hp
                · exact ⟨heC', hcL, hc₀⟩
                · have z := N₂ p (List.mem_cons_of_mem _ (List.mem_cons_of_mem _ hp))
                  exact ⟨hs₃.extBut _ _ (offc p hp) z.1, z.2⟩
        have off₃ : Off3 I H2.objs.size s₂.heap.objs.size ((c, oc') :: news') := Off3.of fun p hp => by
          rcases List.mem_cons.mp hp with rfl | hp
          · exact ⟨Ne.symm hcI, hcC, hcD⟩
          · exact off3 p (List.mem_cons_of_mem _ hp)
        refine wpAny_mono (R' v I oI H2.objs.size oC s₂.heap.objs.size c oc' h₃ _ _ hPv hcd' F₃ N₃ off₃ offc ⟨hCI, hDI, Ne.symm hDC⟩) (fun y s₄ h₄ => ?_) fun _ _ e => e
        walk_at "open"
        obtain ⟨h₄, tk₄, news₄, rfl, F₄, N₄, off₄, offc₄, hS₄, R₄⟩ := h₄
        walk_at "shut"
        have zI := (N₄ (I, oI) List.mem_cons_self).1
        have zC := (N₄ (H2.objs.size, oC) (List.mem_cons_of_mem _ List.mem_cons_self)).1
        have zD := (N₄ (s₂.heap.objs.size, lst ys) (List.mem_cons_of_mem _ (List.mem_cons_of_mem _ List.mem_cons_self))).1
        have N₄' : News h₀ L h₄ ((c, oc') :: news₄) := fun p hp => N₄ p (List.mem_cons_of_mem _ (List.mem_cons_of_mem _ (List.mem_cons_of_mem _ hp)))
        have hst₄ : St (i + 1) h₄ := hSt _ _ _ _ _ hst₃ heI zI F₄.keep (fun p hp => N₄' p (List.mem_cons_of_mem _ hp)) hS₄
        refine append_at (hsz := by show ys.toArray.size ≤ sizeLine; rw [List.size_toArray, hyl]; exact Nat.le_trans hi hsz) zD fun h₅ hs₅ hD₅ => ?_
        have off4 := off₄.mem
        refine ⟨n + 1 - (i + 1), sub_dec hlt, h₅, tk₄, i + 1, ys ++ [y], _, news₄, oc', _, rfl, hlt, rfl, by rw [List.length_append, List.length_singleton, hyl], W.frame _ _ _ hst₄ fun b hb o e => hs₅.extBut b o (fun q => hDf (q ▸ hb)) e, F₄.change hs₅ hDL hD₀,
          (hoC.ns zC).sameBut hs₅ (Ne.symm hDC), fun p hp => ?_, hcd', off₄, offc₄, hS₄, ?_⟩
        · rcases List.mem_cons.mp hp with rfl | hp
          · exact ⟨hD₅.trans (congrArg some (lst_snoc ys y)), hDL, hD₀⟩
          · exact ⟨hs₅.extBut _ _ (off4 p hp).2.2 (N₄' p hp).1, (N₄' p hp).2⟩
        · rw [sub_one hj]
          exact R₄
      · obtain rfl : i = n := Nat.le_antisymm hi (Nat.not_lt.mp hlt)
        rw [Nat.sub_self] at R'
        refine W.done _ _ _ hst' fun h₂ tk₂ hk₂ => ?_
        exact hRR _ _ h₂ tk₂ _ ys news' (fr_but F' hk₂ hIL hI₀) (news_sub (news_but N' hk₂ fun p hp => by
          rcases List.mem_cons.mp hp with rfl | hp
          · exact Ne.symm hDI
          · exact (off3 p hp).1) fun p hp => by
            rcases List.mem_cons.mp hp with rfl | hp
            · exact List.mem_cons_self
            · exact List.mem_cons_of_mem _ (List.mem_cons_of_mem _ hp)) off'.one.2 (hn'.at' fun o e => hk₂ _ o (by simpa using Ne.symm hCI) e) hC₀ hD₀ hCL hDL (Ne.symm hDC) (fun p hp => (off3 p (List.mem_cons_of_mem _ hp)).2.1) R'
    · rcases List.mem_cons.mp hp with rfl | hp
      · exact ⟨hacc, hDL, hD₀⟩
      · rcases List.mem_cons.mp hp with rfl | hp
        · exact ⟨hcc, hcL, hc₀⟩
        · exact ⟨old _ _ (N p hp).1, (N p hp).2⟩
  exact codeAny_compStart_list (loop _ rfl) (W.self 0 _ _ _ hst₁ (loop _ rfl))
noncomputable def SrcC (prog : Program) (w : World) (A : Around) (h₀ : Heap) (L : Addr) (m : Str → Option Value) (env : Env) (elt : Expr) (x y : Str) (scope : Scope) (Q : Flow → Shared → Prop) (xv : Value) (s₁ : Shared) : Prop :=
  ∃ ax its k news, xv = .ref ax ∧ A.handled = none ∧ Fr h₀ L s₁.heap m ∧ News h₀ L s₁.heap news ∧ (ax, ({ cls := .type "list", data := .seq its k } : Obj)) ∈ news ∧ its.size ≤ sizeLine ∧
      ∀ g, CompRestC prog w A h₀ L m env elt x scope { s₁ with heap := g } (SrcAt h₀ ax its) (fun i v => its[i]? = some v) (FinA h₀ L m { s₁ with heap := g } y Q) its.size 0 [] news
theorem Assign_ListComp_C {elt iter : Expr} {x y n0 n2 : Str} {px py : Pos} {scope : Scope} {pos spos : Pos} {Q : Flow → Shared → Prop} (F₀ : Fr h₀ L s.heap m) (hLe : env.locals = L)
    (hsw : swapsWith (.ListComp elt [⟨.Name x px, iter, [], 0⟩] scope pos) (some (.Name y py)) spos.line env = pure true)
    (hclos : closureFor scope env = pure []) (hn : scope.names = [(n0, .local), (x, .cell), (n2, .globalImplicit)]) (hx0 : (x == n0) = false) (hkind : scope.kind = .function)
    (hnames : ∀ z ∈ scope.names, z.2 = .local → scope.names.lookup z.1 = some .local)
    (hy : env.kindOf y = some .local) (hp : (env.scope.kind == .class || (env.scope.kind == .module && env.locals != env.globals)) = false)
    (h : wpAny (model prog w) A (eval iter env) (SrcC prog w A h₀ L m env elt x y scope Q) E s)
    (hs : ∀ x, foldedSetIterable iter env x = pure x) :
    wpAny (model prog w) A (exec (.Assign [.Name y py] (.ListComp elt [⟨.Name x px, iter, [], 0⟩] scope pos) spos) env) Q E s := by
  subst hLe
  rw [exec_Assign_Name_used _ _ _ _ hsw]
  refine wpAny_bind (wpAny_standAt (wpAny_bind ?_))
  show wpAny _ A (do let _ ← comprehension (.ListComp elt [⟨.Name x px, iter, [], 0⟩] scope pos) scope env _ (newList []) false (eval iter env) (some (assign (.Name y py) env))) _ _ s
  refine wpAny_bind (wpAny_mono (wpAny_comprehension_free (use := some (assign (.Name y py) env)) (Q := fun _ s' => Q .next s') rfl hs hclos hkind hnames
    (wpAny_mono h (fun xv s₁ h₁ => ?_) fun _ _ e => e)) (fun _ s' hq => wpAny_pure (wpAny_pure hq)) fun _ _ e => e)
  walk_at "open"
  obtain ⟨ax, its, k, news, rfl, hh, F, N, hm, hsz, R⟩ := h₁
  walk_at "shut"
  have S : SrcAt h₀ ax its news := .inr ⟨_, hm, rfl, _, rfl⟩
  have hl := S.list F.keep N
  have hlt : ax < s₁.heap.objs.size := by obtain ⟨_, e, _⟩ := hl; exact Heap.lt_size e
  refine wpAny_pyIter_list hl ?_
  have up : ∀ b o, s₁.heap.get? b = some o → (s₁.heap.push { cls := .type "list_iterator", data := .fields #[.ref ax, .int 0 0] }).get? b = some o := fun b o e => Heap.get?_push_of_some _ e
  refine block_C (Walks.list hh s₁.heap.objs.size ax (Nat.ne_of_lt hlt) its) hsz (fun i h st => by obtain ⟨o, e, _⟩ := st.1; exact ⟨o, e⟩) list_st hn hx0 hkind ⟨⟨_, Heap.get?_push_size _ rfl, rfl, rfl⟩, hl.push _⟩ (fun b hb => ?_)
    (F.keeps up) (N.grown up) (Nat.ne_of_lt F.ns.lt) (next_is_new F) (fun p hp => Nat.ne_of_lt (Heap.lt_size (N p hp).1)) S (R _) ?_
  · show b < (s₁.heap.push _).objs.size
    rw [Heap.size_push]
    rcases List.mem_cons.mp hb with rfl | hb
    · exact Nat.lt_succ_self _
    · rw [List.mem_singleton.mp hb]; exact Nat.lt_succ_of_lt hlt
  · intro D C h' tk m' ys news' F' N' o1 hn hC₀ hD₀ hCL hDL hCD offC fin
    show wpAny _ A (assign (.Name y py) env (.ref D)) _ _ _
    refine wpAny_assign_Name (wpAny_storeName_local hy F'.ns (fun h₂ hn₂ hs₂ => ?_) hp)
    have hL₀ : h₀.get? env.locals = none := Heap.get?_none_of_le F'.above
    have F₂ : Fr h₀ env.locals h₂ (fun z => if z = y then some (.ref D) else m z) := ⟨hn₂, fun b o e => hs₂.extBut b o (fun q => by rw [q, hL₀] at e; cases e) (F'.keep b o e), F'.above⟩
    refine ⟨m', hn.sameBut hs₂ hCL, fun h'' hs'' => fin D h'' _ (F₂.change hs'' hCL hC₀) (fun p hp => ?_) o1⟩
    have z : h₂.get? p.1 = some p.2 := hs₂.extBut _ _ (N' p hp).2.1 (N' p hp).1
    refine ⟨hs''.extBut _ _ ?_ z, (N' p hp).2⟩
    rcases List.mem_cons.mp hp with rfl | hp
    · exact Ne.symm hCD
    · exact offC p hp
end
end Mine

end
section
open PySem.Spec PyProof.V PySem PySem.W PySem.W.X PyProof.Rows PySem.Calls
namespace Mine
noncomputable def bits3 (lk : List Nat) : List Int := RGB.map fun c => if likedB lk c then 1 else 0
theorem mk7_cases (x : Int) : mk7 x = 1 ∨ mk7 x = 2 ∨ mk7 x = 3 ∨ mk7 x = 4 ∨ mk7 x = 5 ∨ mk7 x = 6 ∨ mk7 x = 7 := by
  have h0 := Int.fmod_nonneg_of_pos x (show (0 : Int) < 7 by decide)
  have h1 := Int.fmod_lt_of_pos x (show (0 : Int) < 7 by decide)
  unfold mk7
  exact smallZ (P := fun y => 1 + y = 1 ∨ 1 + y = 2 ∨ 1 + y = 3 ∨ 1 + y = 4 ∨ 1 + y = 5 ∨ 1 + y = 6 ∨ 1 + y = 7) 7 h0 h1 (by decide)
theorem val_bits (x : Int) : val (bits3 (lkOf x)) 0 3 = mk7 x := by
  unfold lkOf
  rcases mk7_cases x with h | h | h | h | h | h | h <;> rw [h] <;> decide
theorem bits_snoc {lk : List Nat} {j : Nat} (h : j < 3) : (bits3 lk).take (j + 1) = (bits3 lk).take j ++ [if likedB lk (RGB.getD j 0) then 1 else 0] := by
  rcases (by lia : j = 0 ∨ j = 1 ∨ j = 2) with rfl | rfl | rfl <;> rfl
theorem bits_no {lk : List Nat} {j c : Nat} (hl : lk ∈ LK) (hc : RGB[j]? = some c) (hz : (Builtin.Str.occurrences ⟨lk.toArray⟩ ⟨#[c]⟩ 0 (⟨lk.toArray⟩ : Str).length 1).isEmpty = true) :
    (bits3 lk).take (j + 1) = (bits3 lk).take j ++ [0] := by
  have hj : j < 3 := (List.getElem?_eq_some_iff.mp hc).1
  have hcm := List.mem_of_getElem? hc
  rw [in_likes hl hcm] at hz
  have e : likedB lk c = false := by simpa [likedB] using hz
  rw [bits_snoc hj, show RGB.getD j 0 = c from by rw [List.getD_eq_getElem?_getD, hc]; rfl, e]; rfl
theorem bits_yes {lk : List Nat} {j c : Nat} (hl : lk ∈ LK) (hc : RGB[j]? = some c) (hz : (Builtin.Str.occurrences ⟨lk.toArray⟩ ⟨#[c]⟩ 0 (⟨lk.toArray⟩ : Str).length 1).isEmpty = false) :
    (bits3 lk).take (j + 1) = (bits3 lk).take j ++ [1] := by
  have hj : j < 3 := (List.getElem?_eq_some_iff.mp hc).1
  have hcm := List.mem_of_getElem? hc
  rw [in_likes hl hcm] at hz
  have e : likedB lk c = true := by simpa [likedB] using hz
  rw [bits_snoc hj, show RGB.getD j 0 = c from by rw [List.getD_eq_getElem?_getD, hc]; rfl, e]; rfl
theorem bits_01 (lk : List Nat) : ∀ d ∈ bits3 lk, d = 0 ∨ d = 1 := by
  intro d hd
  walk_at "open"
  obtain ⟨c, _, rfl⟩ := List.mem_map.mp hd
  walk_at "shut"
  by_cases h : likedB lk c = true
  · right; simp [h]
  · left; simp [h]
noncomputable def JB (lk : List Nat) (base : Led) (i : Nat) (ys : List Value) (nw : Led) : Prop := Has base nw ∧ IntsAre ys ((bits3 lk).take i)
noncomputable def T45 (base : Led) (T : Led) : Prop := T = [(45, tabObj #[])] ∨ ∃ c oc, T = [(45, tabObj #[rawInt 88, rawInt 4, .ref c]), (c, oc)] ∧ codeHas oc (Str.ofString "_digits2int.<locals>.inner") ∧ @LT.lt Nat _ 45 c ∧ ∀ p ∈ base, @Ne Nat p.1 c
inductive JMk (base : Led) (xs : List Int) (i : Nat) (ys : List Value) (nw : Led) : Prop
  | mk (T : _) (x0 : Has (T ++ base) nw) (x1 : IntsAre ys ((xs.take i).map mk7)) (x2 : T45 base T) : JMk base xs i ys nw
theorem hasC_news {h₀ h : Heap} {L : Addr} {a b c d : Addr × Obj} {base nw : Led} (H : Has base nw) (N : News h₀ L h (a :: b :: c :: d :: nw)) : News h₀ L h (a :: b :: c :: d :: base) := news_more [_, _, _, _] H N
theorem hasC_off {I C D : Addr} {d : Addr × Obj} {base nw : Led} (H : Has base nw) (o : LCg.Off3 I C D (d :: nw)) : LCg.Off3 I C D (d :: base) := LCg.Off3.of fun p hp => LCg.Off3.mem o p (by
  rcases List.mem_cons.mp hp with rfl | hp
  · exact List.mem_cons_self
  · exact List.mem_cons_of_mem _ (H p hp))
theorem take_mk7 {xs : List Int} {i : Nat} {x : Int} (h : xs[i]? = some x) : (xs.take (i + 1)).map mk7 = (xs.take i).map mk7 ++ [mk7 x] := by
  rw [List.take_succ, h, Option.toList_some, List.map_append]; rfl
theorem guest_x {vs : List Value} {xs : List Int} (h : StrsAre vs ((xs.map lkOf).map fun l => ⟨l.toArray⟩)) {j : Nat} {v : Value} (e : vs[j]? = some v) : ∃ x, xs[j]? = some x ∧ ∃ t, v = .str ⟨(lkOf x).toArray⟩ t := by
  walk_at "open"
  obtain ⟨lk, hlk, t, rfl⟩ := guest_at h e
  walk_at "shut"
  rw [List.getElem?_map] at hlk
  cases hx : xs[j]? with
  | none => rw [hx] at hlk; cases hlk
  | some x => rw [hx] at hlk; injection hlk with hlk; exact ⟨x, rfl, t, by rw [hlk]⟩
theorem CompEndC.intro {h₀ : Heap} {L I C D c : Addr} {m : Str → Option Value} {s₁ : Shared} {oI oC oD oc : Obj} {S : Led → Prop} {rest : Value → Led → Prop} {y : Value} {h' : Heap} {tk : Nat} {all : Led}
    (F : Fr h₀ L h' m) (N : News h₀ L h' all) (news' : Led) (sub : ∀ p ∈ (I, oI) :: (C, oC) :: (D, oD) :: (c, oc) :: news', p ∈ all) (off : LCg.Off3 I C D ((c, oc) :: news')) (offc : ∀ p ∈ news', @Ne Nat p.1 c) (hS : S news') (r : rest y news') :
    CompEndC h₀ L m s₁ I oI C oC D oD c oc S rest y { s₁ with heap := h', toks := tk } := ⟨h', tk, news', rfl, F, fun p hp => N p (sub p hp), off, offc, hS, r⟩
end Mine
namespace Mine
theorem code_ne_tab0 {o : Obj} {q : Str} (h : codeHas o q) : o ≠ tabObj #[] := fun e => by
  walk_at "open"
  obtain ⟨ps, n, h1, h2⟩ := h
  walk_at "shut"
  rw [e] at h1
  injection h1 with h1
  rw [← h1] at h2
  cases h2
end Mine
namespace Mine
section
variable {h₀ h : Heap} {L I C D cc D9 : Addr} {oI oC oD occ o9 : Obj} {T T' base : Led}
theorem d2i_hap (hD9 : ∀ p ∈ (I, oI) :: (C, oC) :: (D, oD) :: (cc, occ) :: (T ++ base), p.1 ≠ D9) (off : LCg.Off3 I C D ((cc, occ) :: (T ++ base))) (offc : ∀ p ∈ T ++ base, @Ne Nat p.1 cc) (hb : ∀ p ∈ base, p.1 ∉ T.map (·.1)) :
    ∀ p ∈ (I, oI) :: (C, oC) :: (D, oD) :: (cc, occ) :: base, p.1 ∉ ((D9, o9) :: T : Led).map (·.1) := fun p hp hx => by
  rw [List.map_cons, List.mem_cons] at hx
  rcases hx with e | hx
  · refine hD9 p ?_ e
    simp only [List.mem_cons, List.mem_append] at hp ⊢
    rcases hp with hp | hp | hp | hp | hp <;> simp only [hp, true_or, or_true]
  · walk_at "open"
    obtain ⟨q, hq, e⟩ := List.mem_map.mp hx
    walk_at "shut"
    have z := off.mem q (List.mem_cons_of_mem _ (List.mem_append_left _ hq))
    have zc := offc q (List.mem_append_left _ hq)
    simp only [List.mem_cons] at hp
    rcases hp with rfl | rfl | rfl | rfl | hp
    · exact z.1 e
    · exact z.2.1 e
    · exact z.2.2 e
    · exact zc e
    · exact hb p hp hx
theorem d2i_news (N : News h₀ L h ((D9, o9) :: (I, oI) :: (C, oC) :: (D, oD) :: (cc, occ) :: (T ++ base))) : News h₀ L h (((D9, o9) :: T) ++ ((I, oI) :: (C, oC) :: (D, oD) :: (cc, occ) :: base)) := news_blk [[_], [_], [_], [_], [_], _, _] [0, 5, 1, 2, 3, 4, 6] N
theorem d2i_sub : ∀ p ∈ ((I, oI) :: (C, oC) :: (D, oD) :: (cc, occ) :: (T ++ base) : Led), p ∈ ((D9, o9) :: T) ++ ((I, oI) :: (C, oC) :: (D, oD) :: (cc, occ) :: base) :=
  sub_blk [[(D9, o9)], T, [(I, oI)], [(C, oC)], [(D, oD)], [(cc, occ)], base] [2, 3, 4, 5, 1, 6]
end
end Mine
namespace Mine
theorem ints_strs_ne {ds gs : List Value} {xs : List Int} {ys : List Str} {n k : Nat} (h : IntsAre ds xs) (h' : StrsAre gs ys) (hx : xs ≠ []) : W.listOf ds.toArray n ≠ W.listOf gs.toArray k := fun e => by
  have e2 : ds = gs := by
    have := congrArg (fun o : Obj => o.data) e
    simp [W.listOf] at this
    exact this.1
  subst e2
  cases h with
  | nil => exact hx rfl
  | cons _ _ _ => cases h'
end Mine
namespace Mine
theorem ne_of_objs {h₀ h : Heap} {L : Addr} {all : Led} {p q : Addr × Obj} (N : News h₀ L h all) (hp : p ∈ all) (hq : q ∈ all) (e : p.2 ≠ q.2) : @Ne Nat p.1 q.1 := fun q' => by
  have h1 := (N p hp).1
  have h2 := (N q hq).1
  rw [show p.1 = q.1 from q', h2] at h1
  injection h1 with h1
  exact e h1.symm
end Mine
namespace Mine
theorem BH.b12 {b hosts : Nat} (h : BH b hosts) : b = 1 ∨ b = 2 := by
  rcases h with ⟨h, _⟩ | ⟨h, _⟩
  · exact .inl h
  · exact .inr h
end Mine
namespace Mine
theorem tup_ne_list {xs ys : Array Value} {n k : Nat} : ({ cls := .type "tuple", data := .seq xs k } : Obj) ≠ W.listOf ys n := fun e => by
  have := congrArg (fun o : Obj => o.cls) e
  simp [W.listOf] at this
end Mine

end
section
open PySem.Spec PyProof.V PySem PySem.W PySem.W.X PyProof.Rows PySem.Calls
namespace Mine
section
variable {prog : Program} {w : World} {A : Around} {E : Value → Shared → Prop} {s : Shared} {h₀ : Heap} {L D : Addr} {news : Led} {vs : List Value} {n : Nat} {k : Int} {u : Tok}
theorem item_at {value slice : PySem.Expr} {Q : Value → Shared → Prop} {j : Nat} {v : Value} (N : News h₀ L s.heap news) (hm : (D, W.listOf vs.toArray n) ∈ news) (hv : vs[j]? = some v) (hj : k = (j : Int)) (hfit : k < 2 ^ 63) (h : Q v s)
    (hs : subscripted slice false (.ref D) (.int k u) = operate [.ref D, .int k u] (getItem (.ref D) (.int k u))) :
    wpAny (model prog w) A (subscriptTail value slice (.ref D) (.int k u)) Q E s :=
  tail_any (PySem.IsL.isList (n := n) (N _ hm).1).typeIs slot_list_getitem.lookup (by
    subst hj
    exact wpAny_getItem_list (PySem.IsL.isList (n := n) (N _ hm).1) (Int.ofNat_nonneg _) hfit (by simpa using hv) h) hs
end
theorem ints_get {vs : List Value} {ns : List Int} (h : IntsAre vs ns) : ∀ {j : Nat} {x : Int}, ns[j]? = some x →  ∃ t, vs[j]? = some (.int x t) := by
  induction h with
  | nil => intro j x e; cases e
  | cons m t h ih =>
    intro j x e
    cases j with
    | zero => simp at e; subst e; exact ⟨t, rfl⟩
    | succ j => simpa using ih (by simpa using e)
theorem guest_get {vs : List Value} {xs : List Int} (h : StrsAre vs ((xs.map lkOf).map fun l => ⟨l.toArray⟩)) (hl : vs.length = xs.length) {j : Nat} {x : Int} (e : xs[j]? = some x) : ∃ t, vs[j]? = some (.str ⟨(lkOf x).toArray⟩ t) := by
  have hj : j < vs.length := by rw [hl]; exact (List.getElem?_eq_some_iff.mp e).1
  walk_at "open"
  obtain ⟨x', hx', t, hv⟩ := guest_x h (List.getElem?_eq_getElem hj)
  walk_at "shut"
  rw [e] at hx'
  injection hx' with hx'
  subst hx'
  exact ⟨t, by rw [← hv]; exact List.getElem?_eq_getElem hj⟩
noncomputable def JE (base : Led) (ys : List Value) (nw : Led) : Prop := Has base nw ∧ ys = []
end Mine
namespace Mine
theorem body_none {prog : Program} {w : World} {A : Around} {h₀ : Heap} {L : Addr} {m : Str → Option Value} {env : Env} {elt : Expr} {x1 x2 : Str} {iter2 : Expr} {ifs : List Expr} {scope : Scope} {cl : List (Str × Addr)} {s₂ : Shared} {S : Led → Prop} {P : Nat → Value → Prop} {n : Nat} {news : Led} {Fin : List Value → Led → Prop}
    (b : Nat) (hsz : n * b ≤ 1000000) (h : Rest2 prog w A h₀ L m env elt x1 x2 iter2 ifs scope cl s₂ S P n news Fin (fun _ ys nw => JE news ys nw) (fun _ _ ys nw => JE news ys nw) b 0) : Body2 prog w A h₀ L m env elt x1 x2 iter2 ifs scope cl s₂ S P n news Fin :=
  ⟨_, _, _, _, hsz, ⟨Has.refl _, rfl⟩, h⟩
end Mine
namespace Mine
theorem getD_at {l : List Int} {j : Nat} {e : Int} (h : l[j]? = some e) : l.getD (0 + (j : Int)).toNat 0 = e := by
  rw [show (0 + (j : Int)).toNat = j by lia, List.getD_eq_getElem?_getD, h]; rfl
theorem in_item {lk : List Nat} {j : Nat} (hl : lk ∈ LK) (h : j < 3) (hz : (Builtin.Str.occurrences ⟨lk.toArray⟩ (Txt.item (Str.ofString "rgb") (0 + (j : Int))) 0 (⟨lk.toArray⟩ : Str).length 1).isEmpty = false) : ∃ c, RGB[j]? = some c ∧ c ∈ lk := by
  rw [(item_rgb h).1, in_likes hl (item_rgb h).2] at hz
  refine ⟨RGB.getD j 0, ?_, by simpa using hz⟩
  rcases (by lia : j = 0 ∨ j = 1 ∨ j = 2) with rfl | rfl | rfl <;> rfl
end Mine
namespace Mine
noncomputable def Strl (o : Obj) : Prop := ∃ (xs : List Value) (n : Nat) (os : List Nat), o = W.listOf (List.toArray xs) n ∧ StrsAre xs (os.map one) ∧ os ≠ []
theorem offs_trim {nw : Led} {vs : List Value} {offs : List (List Nat)} {sts : List Nat} (h : OffsAre nw vs offs) (hl : offs.length = sts.length) (hin : ∀ (k : Nat) c, sts[k]? = some c → ∃ os, offs[k]? = some os ∧ c ∈ os) :
    ∃ ofl : Led, (∀ q ∈ ofl, q ∈ nw) ∧ OffsAre ofl vs offs ∧ ∀ q ∈ ofl, Strl q.2 := by
  classical
  refine ⟨nw.filter (fun q => decide (Strl q.2)), fun q hq => (List.mem_filter.mp hq).1, ⟨h.1, fun i v hv => ?_⟩, fun q hq => by simpa using (List.mem_filter.mp hq).2⟩
  walk_at "open"
  obtain ⟨os, ho, a, xs, n, e, hm, hs⟩ := h.2 i v hv
  walk_at "shut"
  refine ⟨os, ho, a, xs, n, e, List.mem_filter.mpr ⟨hm, ?_⟩, hs⟩
  have hi : i < sts.length := by rw [← hl]; exact (List.getElem?_eq_some_iff.mp ho).1
  walk_at "open"
  obtain ⟨os', h1, h2⟩ := hin i _ (List.getElem?_eq_getElem hi)
  walk_at "shut"
  rw [ho] at h1
  injection h1 with h1
  subst h1
  exact decide_eq_true ⟨xs, n, os, rfl, hs, fun e => by rw [e] at h2; cases h2⟩
theorem Strl.notCell {o : Obj} (h : Strl o) : NotCell o := by
  walk_at "open"
  obtain ⟨xs, n, os, rfl, _, _⟩ := h
  walk_at "shut"
  exact notCell_list
theorem strs_slim {xs : List Value} {os : List Str} (h : StrsAre xs os) (ho : os ≠ []) : xs.toArray ≠ #[] ∧ ∀ p t, xs.toArray ≠ #[.int p t] := by
  cases h with
  | nil => exact absurd rfl ho
  | cons m t h => exact ⟨fun e => by simp at e, fun p t e => by simp at e⟩
theorem Strl.ne_X {h₀ h : Heap} {L : Addr} {all X : Led} {q : Addr × Obj} (hs : Strl q.2) (hX : ∀ p ∈ X, Slim p.2) (N : News h₀ L h all) (hsub : ∀ p ∈ X, p ∈ all) (hq : q ∈ all) : ∀ p ∈ X, @Ne Nat p.1 q.1 := by
  walk_at "open"
  obtain ⟨xs, n, os, e, h1, h2⟩ := hs
  obtain ⟨a, o⟩ := q
  walk_at "shut"
  dsimp only at e
  subst e
  have z := strs_slim h1 (fun e => h2 (List.map_eq_nil_iff.mp e))
  exact slim_ne hX N hsub hq z.1 z.2
theorem Strl.ne_code {o o' : Obj} {q : Str} (h : Strl o) (h' : codeHas o' q) : o ≠ o' := by
  walk_at "open"
  obtain ⟨xs, n, os, rfl, _, _⟩ := h
  walk_at "shut"
  exact seq_ne_code h'
theorem Strl.ne_tab {o : Obj} {ps : Array Value} (h : Strl o) : o ≠ tabObj ps := by
  walk_at "open"
  obtain ⟨xs, n, os, rfl, _, _⟩ := h
  walk_at "shut"
  intro e
  cases e
theorem refs_slim {nw : Led} {vs : List Value} {offs : List (List Nat)} (h : OffsAre nw vs offs) (hl : offs ≠ []) : vs.toArray ≠ #[] ∧ ∀ p t, vs.toArray ≠ #[.int p t] := by
  have h1 := h.1
  cases vs with
  | nil => cases offs with
    | nil => exact absurd rfl hl
    | cons _ _ => cases h1
  | cons v vs =>
    walk_at "open"
    obtain ⟨_, _, a, _, _, e, _⟩ := h.2 0 v rfl
    walk_at "shut"
    subst e
    exact ⟨fun e => by simp at e, fun p t e => by simp at e⟩
theorem pair_slim {a b : Value} : (#[a, b] : Array Value) ≠ #[] ∧ ∀ p t, (#[a, b] : Array Value) ≠ #[.int p t] := ⟨fun e => by simp at e, fun p t e => by simp at e⟩
theorem BH.len {b hosts : Nat} (h : BH b hosts) {sts : List Nat} (p : sts.Perm (repb b (hostsL hosts))) : sts.length = b * hosts := by
  rw [p.length_eq, repb_len]
  simp [hostsL]
theorem nonempty_of {α : Type} {l : List α} (h : 2 ≤ l.length) : l ≠ [] := fun e => by rw [e] at h; simp at h
end Mine
namespace Mine
end Mine
namespace Mine
noncomputable def JM7 (base : Led) (xs : List Int) (i : Nat) (ys : List Value) (nw : Led) : Prop := Has base nw ∧ IntsAre ys ((xs.take i).map mk7)
end Mine
namespace Mine
theorem strs_get {vs : List Value} {xs : List Str} (h : StrsAre vs xs) : ∀ {j : Nat} {x : Str}, xs[j]? = some x → ∃ t, vs[j]? = some (.str x t) := by
  induction h with
  | nil => intro j x e; cases e
  | cons m t h ih =>
    intro j x e
    cases j with
    | zero => simp at e; subst e; exact ⟨t, rfl⟩
    | succ j => simpa using ih (by simpa using e)
theorem offs_get {nw : Led} {vs : List Value} {offs : List (List Nat)} {sts : List Nat} (h : OffsAre nw vs offs) (hl : offs.length = sts.length) (hin : ∀ (k : Nat) c, sts[k]? = some c → ∃ os, offs[k]? = some os ∧ c ∈ os) {j : Nat} (hj : j < sts.length) :
    ∃ (c : Nat) (os : List Nat) (a : Addr) (xs : List Value) (n : Nat), sts[j]? = some c ∧ c ∈ os ∧ vs[j]? = some (.ref a) ∧ (a, W.listOf (List.toArray xs) n) ∈ nw ∧ StrsAre xs (os.map one) := by
  have hv : j < vs.length := by rw [h.1, hl]; exact hj
  walk_at "open"
  obtain ⟨os, ho, a, xs, n, e, hm, hs⟩ := h.2 j _ (List.getElem?_eq_getElem hv)
  obtain ⟨os', h1, h2⟩ := hin j _ (List.getElem?_eq_getElem hj)
  walk_at "shut"
  rw [ho] at h1
  injection h1 with h1
  subst h1
  exact ⟨_, os, a, xs, n, List.getElem?_eq_getElem hj, h2, by rw [List.getElem?_eq_getElem hv, e], hm, hs⟩
end Mine
namespace Mine
theorem rising_pair : ∀ {p : Nat} {l : List Nat}, risingS (one p) (l.map one) = true → (p :: l).Pairwise (· ≤ ·)
  | p, [], _ => by simp
  | p, x :: r, h => by
    have h' : (!ltCps (one x).cps.toList (one p).cps.toList && risingS (one x) (r.map one)) = true := h
    rw [Bool.and_eq_true] at h'
    have h2 := rising_pair h'.2
    have h1 : p ≤ x := by
      have z := h'.1
      rw [ltCps_eq] at z
      have z2 : ¬ ([x] < [p]) := by simpa [one] using z
      rcases Nat.lt_or_ge x p with q | q
      · exact absurd (List.Lex.rel q) z2
      · exact q
    refine List.pairwise_cons.mpr ⟨fun y hy => ?_, h2⟩
    rcases List.mem_cons.mp hy with rfl | hy
    · exact h1
    · exact Nat.le_trans h1 ((List.pairwise_cons.mp h2).1 y hy)
theorem sortedS_pair {l : List Nat} (h : sortedS (l.map one) = true) : l.Pairwise (· ≤ ·) := by
  cases l with
  | nil => exact .nil
  | cons p l => exact rising_pair h
theorem perm_map_one {ss : List Str} {ns : List Nat} (h : ss.Perm (ns.map one)) : ∃ ms : List Nat, ss = ms.map one ∧ ms.Perm ns := by
  have hm : ∀ x ∈ ss, ∃ n, x = one n := fun x hx => by
    walk_at "open"
    obtain ⟨n, _, e⟩ := List.mem_map.mp (h.mem_iff.mp hx)
    walk_at "shut"
    exact ⟨n, e.symm⟩
  have e : ss = (ss.map fun x => x.cps.toList.headD 0).map one := by
    rw [List.map_map]
    have : ∀ x ∈ ss, (one ∘ fun x : Str => x.cps.toList.headD 0) x = id x := fun x hx => by
      obtain ⟨n, rfl⟩ := hm x hx
      simp [one]
    rw [List.map_congr_left this, List.map_id]
  refine ⟨_, e, ?_⟩
  have := h.map (fun x : Str => x.cps.toList.headD 0)
  rw [List.map_map] at this
  have e2 : ns.map ((fun x : Str => x.cps.toList.headD 0) ∘ one) = ns := by
    have : ∀ n ∈ ns, ((fun x : Str => x.cps.toList.headD 0) ∘ one) n = id n := fun n _ => by simp [one]
    rw [List.map_congr_left this, List.map_id]
  rwa [e2] at this
theorem repb_sorted {b hosts : Nat} (h : BH b hosts) : (repb b (hostsL hosts)).Pairwise (· ≤ ·) := by
  rcases h with ⟨rfl, rfl⟩ | ⟨rfl, rfl⟩ <;> decide
theorem sorted_is {b hosts : Nat} (h : BH b hosts) {sts : List Nat} (hp : sts.Perm (repb b (hostsL hosts))) {ss : List Str} (h1 : ss.Perm (sts.map one)) (h2 : sortedS ss = true) : ss = (repb b (hostsL hosts)).map one := by
  walk_at "open"
  obtain ⟨ms, rfl, hm⟩ := perm_map_one h1
  walk_at "shut"
  rw [List.Perm.eq_of_pairwise (le := (· ≤ ·)) (fun a b _ _ h1 h2 => Nat.le_antisymm h1 h2) (sortedS_pair h2) (repb_sorted h) (hm.trans hp)]
end Mine
namespace Mine
theorem chr_host {hosts i : Nat} (h : i < hosts) : (⟨#[(65 + (0 + (i : Int))).toNat]⟩ : Str) = one ((hostsL hosts).getD i 0) := by
  have e : (hostsL hosts).getD i 0 = 65 + i := by simp [hostsL, h]
  rw [e, show (65 + (0 + (i : Int))).toNat = 65 + i by lia]
end Mine
namespace Mine
theorem eqvAll_strs : ∀ ss : List Str, PyData.eqvAll (ss.map PyData.str) (ss.map PyData.str) = true
  | [] => rfl
  | a :: r => by simp only [List.map_cons, PyData.eqvAll, PyData.eqv, beq_self_eq_true, Bool.true_and, eqvAll_strs r]
theorem eq_strs {prog : Program} {w : World} {A : Around} {E : Value → Shared → Prop} {s : Shared} {a b : Addr} {xs ys : List Value} {ss : List Str} {n k : Nat} {h₀ : Heap} {L : Addr} {news : Led} {Q : Value → Shared → Prop} (N : News h₀ L s.heap news) (ha : (a, W.listOf xs.toArray n) ∈ news) (hb : (b, W.listOf ys.toArray k) ∈ news)
    (hi : StrsAre xs ss) (hj : StrsAre ys ss) (hok : ss.all PyData.strOk = true) (hu : A.units + 64 < cLine) (h : Q (.bool true) s) : wpAny (model prog w) A (compareOp .Eq (.ref a) (.ref b)) Q E s := by
  have hsh : SeqAt.shaped (.list (ss.map PyData.str)) = true := by
    simp only [SeqAt.shaped, PyData.canLay0, canLayAll_strs', hok, PyData.depth, depthAll_strs']
    rfl
  exact eq_dataH (reads_newData (PySem.IsL.isList (n := n) (N _ ha).1) hi.carried) (reads_newData (PySem.IsL.isList (n := k) (N _ hb).1) hj.carried) hsh hsh hu (by simp only [PyData.eqv, eqvAll_strs]; exact h)
theorem hosts_ok {b hosts : Nat} (h : BH b hosts) : ((repb b (hostsL hosts)).map one).all PyData.strOk = true := by
  rcases h with ⟨rfl, rfl⟩ | ⟨rfl, rfl⟩ <;> decide +kernel
end Mine

end
section
open PySem.Spec PyProof.V PySem PySem.W PySem.W.X PyProof.Rows PySem.Calls
namespace Mine
theorem cps_app (a b : Str) : (a ++ b).cps.toList = a.cps.toList ++ b.cps.toList := by
  show (a.cps ++ b.cps).toList = _
  exact Array.toList_append
noncomputable def letL (c : Prop) [Decidable c] (n : Int) : List Nat := if c then [n.toNat] else []
theorem addLet_L (c : Prop) [Decidable c] (w : Str) (n : Int) : (addLet c w n).cps.toList = w.cps.toList ++ letL c n := by
  unfold addLet letL
  split
  · rw [cps_app]
  · rw [List.append_nil]
noncomputable def hidL (x : Int) : List Nat := if (x.fdiv 28).fmod 2 = 1 then [(65024 + x.fmod 16).toNat] else []
theorem hid_L (x : Int) : (hidOf x).cps.toList = hidL x := by
  unfold hidOf hidL
  split
  · rfl
  · rfl
noncomputable def bodyL (x : Int) : List Nat := hidL x ++ letL (((mk7 x).fdiv 1).fmod 2 = 1) (startOf x + 17) ++ letL (((mk7 x).fdiv 2).fmod 2 = 1) (startOf x + 6) ++ letL (((mk7 x).fdiv 4).fmod 2 = 1) (startOf x + 1)
theorem body_L (x : Int) : (bodyOf x).cps.toList = bodyL x := by
  unfold bodyOf bodyL
  rw [addLet_L, addLet_L, addLet_L, hid_L]
  rfl
theorem word_L (x : Int) : (wordOf x).cps.toList = if (x.fdiv 56).fmod 2 = 1 then 34 :: (bodyL x ++ 34 :: [10]) else bodyL x ++ [10] := by
  unfold wordOf
  split
  · rw [cps_app, cps_app, body_L, show (Str.ofString "\"").cps.toList = [34] by decide +kernel, show (Str.ofString "\"\n").cps.toList = [34, 10] by decide +kernel]; simp
  · rw [cps_app, body_L, show (Str.ofString "\n").cps.toList = [10] by decide +kernel]
noncomputable def fold0 (c : Nat) : Option Nat := if c = 98 ∨ c = 66 ∨ c = 119809 ∨ c = 119861 then some 98 else if c = 103 ∨ c = 71 ∨ c = 119814 ∨ c = 119866 then some 103 else if c = 114 ∨ c = 82 ∨ c = 119825 ∨ c = 119877 then some 114 else none
structure TabFacts (S : Int → Bool) (D : List (PyData × PyData)) : Prop where
  hid : ∀ c : Int, 65024 ≤ c → c < 65040 → S c = true
  off : ∀ c ∈ ([98, 66, 119809, 119861, 103, 71, 119814, 119866, 114, 82, 119825, 119877] : List Nat), S (c : Int) = false
  none : ∀ c ∈ ([98, 66, 103, 71, 114, 82] : List Nat), lookup (.int (c : Int)) D = none
  b : ∀ c ∈ ([119809, 119861] : List Nat), lookup (.int (c : Int)) D = some (.str ⟨#[98]⟩)
  g : ∀ c ∈ ([119814, 119866] : List Nat), lookup (.int (c : Int)) D = some (.str ⟨#[103]⟩)
  r : ∀ c ∈ ([119825, 119877] : List Nat), lookup (.int (c : Int)) D = some (.str ⟨#[114]⟩)
theorem lower_at {a b : Nat} (h : (a, b) ∈ ([(98, 98), (66, 98), (103, 103), (71, 103), (114, 114), (82, 114)] : List (Nat × Nat))) : Txt.lower ⟨#[a]⟩ = ⟨#[b]⟩ := by
  simp only [List.mem_cons, Prod.mk.injEq, List.not_mem_nil, or_false] at h
  rcases h with ⟨rfl, rfl⟩ | ⟨rfl, rfl⟩ | ⟨rfl, rfl⟩ | ⟨rfl, rfl⟩ | ⟨rfl, rfl⟩ | ⟨rfl, rfl⟩ <;> decide +kernel
theorem start_cases (x : Int) : startOf x = 97 ∨ startOf x = 65 ∨ startOf x = 119808 ∨ startOf x = 119860 := by
  unfold startOf
  split
  · simp
  · split
    · simp
    · split <;> simp
theorem hidL_cases (x : Int) : hidL x = [] ∨ ∃ c : Nat, hidL x = [c] ∧ 65024 ≤ c ∧ c < 65040 := by
  have h0 := Int.fmod_nonneg_of_pos x (show (0 : Int) < 16 by decide)
  have h1 := Int.fmod_lt_of_pos x (show (0 : Int) < 16 by decide)
  unfold hidL
  split
  · exact .inr ⟨_, rfl, by lia, by lia⟩
  · exact .inl rfl
theorem letL_cases (c : Prop) [Decidable c] (n : Int) : (¬ c ∧ letL c n = []) ∨ (c ∧ letL c n = [n.toNat]) := by
  unfold letL
  split
  · exact .inr ⟨by assumption, rfl⟩
  · exact .inl ⟨by assumption, rfl⟩
theorem body_mem {x : Int} {c : Nat} (h : c ∈ bodyL x) : (65024 ≤ c ∧ c < 65040) ∨ c ∈ ([98, 66, 119809, 119861, 103, 71, 119814, 119866, 114, 82, 119825, 119877] : List Nat) := by
  unfold bodyL at h
  simp only [List.mem_append] at h
  have let_mem : ∀ (q : Prop) [Decidable q] (n : Int), c ∈ letL q n → c = n.toNat := fun q _ n hc => by
    rcases letL_cases q n with ⟨_, e⟩ | ⟨_, e⟩ <;> rw [e] at hc
    · cases hc
    · simpa using hc
  rcases h with ((h | h) | h) | h
  · rcases hidL_cases x with e | ⟨d, e, h1, h2⟩ <;> rw [e] at h
    · cases h
    · have : c = d := by simpa using h
      subst this
      exact .inl ⟨h1, h2⟩
  all_goals
    have e := let_mem _ _ h
    right
    rcases start_cases x with s | s | s | s <;> (rw [s] at e; subst e; decide)
theorem body_good {x : Int} {c : Nat} (h : c ∈ bodyL x) : Good c := by
  rcases body_mem h with h | h
  · refine ⟨?_, ?_, ?_, ?_, ?_, ?_⟩ <;> lia
  · simp only [List.mem_cons, List.not_mem_nil, or_false] at h
    unfold Good
    rcases h with rfl | rfl | rfl | rfl | rfl | rfl | rfl | rfl | rfl | rfl | rfl | rfl <;> decide
theorem body_ne (x : Int) : bodyL x ≠ [] := by
  intro e
  unfold bodyL at e
  simp only [List.append_eq_nil_iff] at e
  walk_at "open"
  obtain ⟨⟨⟨_, e1⟩, e2⟩, e3⟩ := e
  walk_at "shut"
  rcases letL_cases (((mk7 x).fdiv 1).fmod 2 = 1) (startOf x + 17) with ⟨n1, _⟩ | ⟨_, q⟩
  · rcases letL_cases (((mk7 x).fdiv 2).fmod 2 = 1) (startOf x + 6) with ⟨n2, _⟩ | ⟨_, q⟩
    · rcases letL_cases (((mk7 x).fdiv 4).fmod 2 = 1) (startOf x + 1) with ⟨n3, _⟩ | ⟨_, q⟩
      · have h0 := Int.fmod_nonneg_of_pos x (show (0 : Int) < 7 by decide)
        have h1 := Int.fmod_lt_of_pos x (show (0 : Int) < 7 by decide)
        have : mk7 x = 1 ∨ mk7 x = 2 ∨ mk7 x = 3 ∨ mk7 x = 4 ∨ mk7 x = 5 ∨ mk7 x = 6 ∨ mk7 x = 7 := by unfold mk7; exact smallZ (P := fun y => 1 + y = 1 ∨ 1 + y = 2 ∨ 1 + y = 3 ∨ 1 + y = 4 ∨ 1 + y = 5 ∨ 1 + y = 6 ∨ 1 + y = 7) 7 h0 h1 (by decide)
        rcases this with h | h | h | h | h | h | h <;> rw [h] at n1 n2 n3 <;> revert n1 n2 n3 <;> decide
      · rw [q] at e3; cases e3
    · rw [q] at e2; cases e2
  · rw [q] at e1; cases e1
theorem body_len (x : Int) : (bodyL x).length ≤ 4 := by
  have h1 : (hidL x).length ≤ 1 := by rcases hidL_cases x with e | ⟨d, e, _, _⟩ <;> rw [e] <;> simp
  have h2 : ∀ (q : Prop) [Decidable q] (n : Int), (letL q n).length ≤ 1 := fun q _ n => by
    rcases letL_cases q n with ⟨_, e⟩ | ⟨_, e⟩ <;> rw [e] <;> simp
  have a := h2 (((mk7 x).fdiv 1).fmod 2 = 1) (startOf x + 17)
  have b := h2 (((mk7 x).fdiv 2).fmod 2 = 1) (startOf x + 6)
  have c := h2 (((mk7 x).fdiv 4).fmod 2 = 1) (startOf x + 1)
  unfold bodyL
  rw [List.length_append, List.length_append, List.length_append]
  exact Nat.add_le_add (Nat.add_le_add (Nat.add_le_add h1 a) b) c
theorem body_fold (x : Int) : (bodyL x).filterMap fold0 = lkOf x := by
  have hh : (hidL x).filterMap fold0 = [] := by
    rcases hidL_cases x with e | ⟨d, e, h1, h2⟩ <;> rw [e]
    · rfl
    · have : fold0 d = none := by
        unfold fold0
        rw [if_neg (by lia), if_neg (by lia), if_neg (by lia)]
      simp [this]
  have hl : ∀ (q : Prop) [Decidable q] (p l : Nat), (∀ s : Nat, s = 97 ∨ s = 65 ∨ s = 119808 ∨ s = 119860 → fold0 (s + p) = some l) → (letL q (startOf x + p)).filterMap fold0 = if q then [l] else [] := fun q _ p l h => by
    have hs : ∃ s : Nat, startOf x = s ∧ (s = 97 ∨ s = 65 ∨ s = 119808 ∨ s = 119860) := by
      rcases start_cases x with e | e | e | e
      · exact ⟨97, e, by simp⟩
      · exact ⟨65, e, by simp⟩
      · exact ⟨119808, e, by simp⟩
      · exact ⟨119860, e, by simp⟩
    walk_at "open"
    obtain ⟨s, e, h4⟩ := hs
    walk_at "shut"
    unfold letL
    split
    · rw [e, show ((s : Int) + (p : Int)).toNat = s + p by lia]
      simp [h s h4]
    · rfl
  unfold bodyL lkOf
  simp only [List.filterMap_append]
  rw [hh, show (17 : Int) = ((17 : Nat) : Int) from rfl, show (6 : Int) = ((6 : Nat) : Int) from rfl, hl _ 17 114 (by rintro s (rfl | rfl | rfl | rfl) <;> decide), hl _ 6 103 (by rintro s (rfl | rfl | rfl | rfl) <;> decide)]
  rw [show startOf x + 1 = startOf x + ((1 : Nat) : Int) from rfl, hl _ 1 98 (by rintro s (rfl | rfl | rfl | rfl) <;> decide)]
  rfl
theorem body_folds {S : Int → Bool} {D : List (PyData × PyData)} (T : TabFacts S D) {x : Int} {c : Nat} (h : c ∈ bodyL x) : FoldsTo S D fold0 c := by
  rcases body_mem h with h | h
  · left
    refine ⟨T.hid c (by lia) (by lia), ?_⟩
    unfold fold0
    rw [if_neg (by lia), if_neg (by lia), if_neg (by lia)]
  · right
    refine ⟨T.off c h, ?_⟩
    simp only [List.mem_cons, List.not_mem_nil, or_false] at h
    rcases h with rfl | rfl | rfl | rfl | rfl | rfl | rfl | rfl | rfl | rfl | rfl | rfl
    · exact ⟨98, by decide, .inr ⟨T.none _ (by decide), lower_at (by decide)⟩⟩
    · exact ⟨98, by decide, .inr ⟨T.none _ (by decide), lower_at (by decide)⟩⟩
    · exact ⟨98, by decide, .inl (T.b _ (by decide))⟩
    · exact ⟨98, by decide, .inl (T.b _ (by decide))⟩
    · exact ⟨103, by decide, .inr ⟨T.none _ (by decide), lower_at (by decide)⟩⟩
    · exact ⟨103, by decide, .inr ⟨T.none _ (by decide), lower_at (by decide)⟩⟩
    · exact ⟨103, by decide, .inl (T.g _ (by decide))⟩
    · exact ⟨103, by decide, .inl (T.g _ (by decide))⟩
    · exact ⟨114, by decide, .inr ⟨T.none _ (by decide), lower_at (by decide)⟩⟩
    · exact ⟨114, by decide, .inr ⟨T.none _ (by decide), lower_at (by decide)⟩⟩
    · exact ⟨114, by decide, .inl (T.r _ (by decide))⟩
    · exact ⟨114, by decide, .inl (T.r _ (by decide))⟩
theorem textOf_cons (x : Int) (xs : List Int) : textOf (x :: xs) = (wordOf x).cps.toList ++ textOf xs := by
  unfold textOf
  simp only [List.map_cons, List.flatten_cons]
theorem text_lxs : ∀ (xs : List Int) (pre : List Nat), pre = [] ∨ pre = [10] → ∃ (n : Nat) (rs : List Nat), Lxs (pre ++ textOf xs) n (xs.map bodyL) rs ∧ (rs = [] ∨ rs = [10]) ∧ n + rs.length = pre.length + xs.length
  | [], pre, hp => ⟨0, pre, by rw [show textOf [] = [] from rfl, List.append_nil]; exact .nil, hp, by simp⟩
  | x :: xs, pre, hp => by
    have lead : ∀ {l : List Nat} {n : Nat} {w r : List Nat}, Lx l n w r → Lx (pre ++ l) (n + pre.length) w r := fun h => by
      rcases hp with rfl | rfl
      · exact h
      · exact .nl h
    rw [textOf_cons, word_L]
    split
    · walk_at "open"
      obtain ⟨n, rs, h1, h2, h3⟩ := text_lxs xs [10] (.inr rfl)
      walk_at "shut"
      refine ⟨_, rs, .cons (lead (?_ : Lx _ 0 (bodyL x) ([10] ++ textOf xs))) h1, h2, ?_⟩
      · simp only [List.cons_append, List.append_assoc, List.nil_append]
        exact .q fun c hc => body_good hc
      · simp only [List.length_cons, List.length_nil] at h3 ⊢
        lia
    · walk_at "open"
      obtain ⟨n, rs, h1, h2, h3⟩ := text_lxs xs [] (.inl rfl)
      walk_at "shut"
      refine ⟨_, rs, .cons (lead (?_ : Lx _ 1 (bodyL x) ([] ++ textOf xs))) h1, h2, ?_⟩
      · have hne := body_ne x
        have hg : ∀ c ∈ bodyL x, Good c := fun c hc => body_good hc
        cases hb : bodyL x with
        | nil => exact absurd hb hne
        | cons c w =>
          rw [hb] at hg
          simp only [List.cons_append, List.append_assoc, List.nil_append]
          exact .u (hg c (List.mem_cons_self ..)) fun d hd => hg d (List.mem_cons_of_mem _ hd)
      · simp only [List.length_cons, List.length_nil] at h3 ⊢
        lia
theorem text_len : ∀ xs : List Int, (textOf xs).length ≤ 7 * xs.length
  | [] => by decide
  | x :: xs => by
    have h := text_len xs
    have hb := body_len x
    rw [textOf_cons, List.length_append, word_L]
    split <;> simp only [List.length_cons, List.length_append, List.length_nil] <;> lia
theorem text_all {S : Int → Bool} {D : List (PyData × PyData)} (T : TabFacts S D) : TextAll S D := by
  intro xs h6 _
  walk_at "open"
  obtain ⟨n, rs, h1, h2, h3⟩ := text_lxs xs [] (.inl rfl)
  walk_at "shut"
  refine ⟨n, rs.length, xs.map bodyL, rs, fold0, h1, by rw [List.length_map, h6], ?_, ?_, ?_, ?_, ?_⟩
  · have := text_len xs; lia
  · rcases h2 with rfl | rfl
    · exact .fin
    · exact .nl .fin
  · simp only [List.length_nil] at h3; lia
  · intro wd hw c hc
    walk_at "open"
    obtain ⟨x, _, rfl⟩ := List.mem_map.mp hw
    walk_at "shut"
    exact body_folds T hc
  · rw [List.map_map]
    exact List.map_congr_left fun x _ => body_fold x
end Mine

end
section
open PySem.Spec PyProof.V PySem PySem.W PySem.W.X PyProof.Rows PySem.Calls
namespace Mine
noncomputable def els107 (P : Params) : List (Int × Value) := match (u107 P).data with
  | .set es _ _ => es.toList
  | _ => []
noncomputable def ints107 : List Int := [65024, 65025, 65026, 65027, 65028, 65029, 65030, 65031, 65032, 65033, 65034, 65035, 65036, 65037, 65038, 65039, 6150, 6155, 6156, 6157, 8203, 8204, 8205, 173, 847, 8288, 65279]
noncomputable def S107 (k : Int) : Bool := ints107.contains k
noncomputable def elOk (e : Int × Value) : Bool := match e.2 with
  | .int k _ => e.1 == hashInt k && ints107.contains k
  | _ => false
theorem els_ok (P : Params) : (els107 P).all elOk = true := by kernel_rfl
theorem els_has (P : Params) : (ints107.all fun k => (els107 P).any fun e => Value.isInt k e.2) = true := by kernel_rfl
theorem set107 {w : World} {g : Heap} (h : g.get? 107 = some (u107 w.params)) : g.SetOf (intKind PySem.Challenge.pw_to0079_01 w) 107 S107 27 := by
  refine ⟨_, _, _, _, h, ⟨rfl, rfl, rfl⟩, rfl, ?_, ?_, ?_, ?_, ?_⟩
  · intro e he
    have z := List.all_eq_true.mp (els_ok w.params) e he
    obtain ⟨a, v⟩ := e
    cases v with
    | int k t =>
      have z' : (a == hashInt k && ints107.contains k) = true := z
      rw [Bool.and_eq_true] at z'
      exact ⟨⟨k, intKind_is _ _ _ _, eq_of_beq z'.1⟩, rfl⟩
    | _ => cases z
  · intro k
    constructor
    · intro hk
      have z := List.all_eq_true.mp (els_has w.params) k (List.elem_iff.mp hk)
      walk_at "open"
      obtain ⟨e, he, hi⟩ := List.any_eq_true.mp z
      walk_at "shut"
      exact ⟨e, he, hi⟩
    · rintro rq1
      walk_at "open"
      obtain ⟨e, he, hi⟩ := rq1
      walk_at "shut"
      have z := List.all_eq_true.mp (els_ok w.params) e he
      walk_at "open"
      obtain ⟨a, v⟩ := e
      obtain ⟨t, rfl⟩ := Value.isInt_shape hi
      walk_at "shut"
      have z' : (a == hashInt k && ints107.contains k) = true := z
      rw [Bool.and_eq_true] at z'
      exact z'.2
  · exact Nat.lt_of_lt_of_le (show 27 < 28 by decide) (by unfold scanBound; decide)
  · kernel_rfl
  · kernel_rfl
inductive EntP : List DictEntry → List (Int × Str) → Prop
  | nil : EntP [] []
  | cons {es xs} (x : Int × Str) (t u : Tok) : EntP es xs → EntP (⟨hashInt x.1, .int x.1 t, .str x.2 u⟩ :: es) (x :: xs)
theorem EntP.app {es fs : List DictEntry} {xs ys : List (Int × Str)} (h : EntP es xs) (k : EntP fs ys) : EntP (es ++ fs) (xs ++ ys) := by
  induction h with
  | nil => exact k
  | cons x t u _ ih => exact .cons x t u ih
theorem ents_P : ∀ (T : Nat) (xs : List (Int × Str)), EntP (ents T xs) xs
  | _, [] => .nil
  | T, x :: r => .cons x _ _ (ents_P (T + 3) r)
theorem entsS_P : ∀ (T U : Nat) (xs : List (Int × Str)), EntP (entsS T U xs) xs
  | _, _, [] => .nil
  | T, U, x :: r => .cons x _ _ (entsS_P (T + 2) U r)
theorem fold_P : ∀ (xs : List (Int × Str)) (st : RS) (ys : List (Int × Str)), EntP st.ms ys → (st.on = false → st.ms = []) → ∃ zs, EntP (xs.foldl rstep st).ms zs ∧ zs ++ (xs.foldl rstep st).run = ys ++ st.run ++ xs
  | [], st, ys, h, _ => ⟨ys, h, by simp⟩
  | x :: xs, st, ys, h, hoff => by
    rw [List.foldl_cons]
    by_cases h16 : st.run.length = 16
    · cases hst : st.on with
      | true =>
        have e : rstep st x = ⟨true, st.ms ++ ents st.k (st.run ++ [x]), st.em + 17, st.subs ++ [dObj (ents st.k (st.run ++ [x])) 17], st.k + 51, [], st.n + 330⟩ := by unfold rstep; rw [if_pos h16, hst]; simp
        walk_at "open"
        obtain ⟨zs, h1, h2⟩ := fold_P xs (rstep st x) (ys ++ (st.run ++ [x])) (by rw [e]; exact h.app (ents_P _ _)) (by rw [e]; intro q; cases q)
        walk_at "shut"
        exact ⟨zs, h1, by rw [h2, e]; simp⟩
      | false =>
        have hms := hoff hst
        rw [hms] at h
        cases h
        have e : rstep st x = ⟨true, ents st.k (st.run ++ [x]), 17, [], st.k + 51, [], st.n + 223⟩ := by unfold rstep; rw [if_pos h16, hst]; simp
        walk_at "open"
        obtain ⟨zs, h1, h2⟩ := fold_P xs (rstep st x) (st.run ++ [x]) (by rw [e]; exact ents_P _ _) (by rw [e]; intro q; cases q)
        walk_at "shut"
        exact ⟨zs, h1, by rw [h2, e]; simp⟩
    · have e : rstep st x = { st with run := st.run ++ [x] } := by unfold rstep; rw [if_neg h16]
      walk_at "open"
      obtain ⟨zs, h1, h2⟩ := fold_P xs (rstep st x) ys (by rw [e]; exact h) (by rw [e]; exact hoff)
      walk_at "shut"
      exact ⟨zs, h1, by rw [h2, e]; simp⟩
theorem finMs_P (k : Nat) (xs : List (Int × Str)) : EntP (finMs k xs) xs := by
  walk_at "open"
  obtain ⟨zs, h1, h2⟩ := fold_P xs ⟨false, [], 0, [], k, [], 0⟩ [] .nil (fun _ => rfl)
  walk_at "shut"
  unfold finMs
  have h3 : zs ++ (fin k xs).run = xs := by simpa [fin] using h2
  have h4 : EntP ((fin k xs).ms ++ entsS (fin k xs).k 0 (fin k xs).run) (zs ++ (fin k xs).run) := h1.app (entsS_P _ _ _)
  rw [h3] at h4
  exact h4
noncomputable def D118 : List (PyData × PyData) := xs14.map fun x => (PyData.int x.1, PyData.str x.2)
theorem EntP.keys {prog : Program} {w : World} {es : List DictEntry} {xs : List (Int × Str)} (h : EntP es xs) : ∀ e ∈ es, ∃ k, (intKind prog w).is k e.key = true ∧ e.hash = (intKind prog w).hash k := by
  induction h with
  | nil => intro e he; cases he
  | cons x t u _ ih =>
    intro e he
    rcases List.mem_cons.mp he with rfl | he
    · exact ⟨x.1, intKind_is _ _ _ _, rfl⟩
    · exact ih e he
theorem EntP.pairs {prog : Program} {w : World} {es : List DictEntry} {xs : List (Int × Str)} (h : EntP es xs) : ∃ kvs : List (Int × Value), Pairs (intKind prog w) es kvs ∧ kvs.map (·.1) = xs.map (·.1) ∧ FlatPairs PyData.int kvs (xs.map fun x => (PyData.int x.1, PyData.str x.2)) := by
  induction h with
  | nil => exact ⟨[], .nil, rfl, .nil⟩
  | cons x t u _ ih =>
    walk_at "open"
    obtain ⟨kvs, h1, h2, h3⟩ := ih
    walk_at "shut"
    exact ⟨(x.1, .str x.2 u) :: kvs, .cons (intKind_is _ _ _ _) rfl h1, by simp [h2], .cons (.str _ _) h3⟩
theorem tab118 {w : World} {g : Heap} (h : g.get? 118 = some D14) : IntTab PySem.Challenge.pw_to0079_01 w g 118 D118 := by
  have hP := finMs_P 413 xs14
  walk_at "open"
  obtain ⟨kvs, h1, h2, h3⟩ := hP.pairs (prog := PySem.Challenge.pw_to0079_01) (w := w)
  walk_at "shut"
  refine ⟨by decide, kvs, Heap.dictOf_iff.mpr ⟨_, h, _, _, ⟨rfl, rfl, rfl⟩, rfl, ?_, ?_, ?_⟩, h3⟩
  · intro e he
    exact hP.keys e (by simpa using he)
  · exact h1
  · rw [h2]
    have n := nodup14
    rw [show (xs14.map fun x => hashInt x.1) = (xs14.map (·.1)).map hashInt by rw [List.map_map]; rfl] at n
    exact (List.pairwise_map.mp n).imp fun h e => h (by rw [e])
theorem facts : TabFacts S107 D118 where
  hid := by
    intro c h1 h2
    have z := smallZ (P := fun y => S107 (65024 + y) = true) (x := c - 65024) 16 (Int.sub_nonneg_of_le h1) (Int.sub_lt_iff.mpr h2 : _) (by decide)
    rw [show (65024 : Int) + (c - 65024) = c from by rw [Int.add_comm]; exact Int.sub_add_cancel _ _] at z
    exact z
  off := by decide
  none := by
    intro c hc
    simp only [List.mem_cons, List.not_mem_nil, or_false] at hc
    rcases hc with rfl | rfl | rfl | rfl | rfl | rfl <;> kernel_rfl
  b := by
    intro c hc
    simp only [List.mem_cons, List.not_mem_nil, or_false] at hc
    rcases hc with rfl | rfl <;> kernel_rfl
  g := by
    intro c hc
    simp only [List.mem_cons, List.not_mem_nil, or_false] at hc
    rcases hc with rfl | rfl <;> kernel_rfl
  r := by
    intro c hc
    simp only [List.mem_cons, List.not_mem_nil, or_false] at hc
    rcases hc with rfl | rfl <;> kernel_rfl
theorem text_holds : TextAll S107 D118 := text_all facts
end Mine

end
section
open PySem.Spec PyProof.V PySem PySem.W PySem.W.X PyProof.Rows PySem.Calls
namespace Mine
noncomputable def earnE (b n : Nat) : Int := if b = 1 then (if n = 0 then 1 else 0) else (if n = 0 then 10 else if n = 1 then 4 else 0)
noncomputable def earnedOf (b : Nat) (names : List Nat) : List Int := RGB.map fun c => earnE b (names.count c)
noncomputable def one1 (f : Int → Bool) : List Int → Bool
  | [q] => f q
  | _ => false
theorem one1_of {f : Int → Bool} {l : List Int} (h : one1 f l = true) : ∃ q, l = [q] ∧ f q = true := by
  rcases l with _ | ⟨q, _ | ⟨r, l⟩⟩
  · cases h
  · exact ⟨q, rfl, h⟩
  · cases h
noncomputable def stepOk (b : Nat) (w : Int) (names lk : List Nat) : Bool :=
  let r := dstep b w ⟨names, earnedOf b names, []⟩ lk
  (reach b).contains r.names && r.earned == earnedOf b r.names &&
  one1 (fun q => ([0, 1, 3, 5] : List Int).contains q && lk.all (fun c => decide ((b : Int) * (w - ((b ^ b : Nat) : Int)) ≤ earnE b (r.names.count c) + (b : Int) * q)) && decide ((earnedOf b r.names).sum + q + w * r.names.length = (earnedOf b names).sum + w * names.length)) r.kept && RGB.all (fun c => decide (earnE b (names.count c) ≤ earnE b (r.names.count c)))
theorem steps_ok : (((reach 1).all fun names => LK.all fun lk => stepOk 1 2 names lk) && ((reach 2).all fun names => LK.all fun lk => stepOk 2 9 names lk)) = true := by decide +kernel
theorem step_ok {b hosts : Nat} (h : BH b hosts) {names lk : List Nat} (hn : names ∈ reach b) (hl : lk ∈ LK) : stepOk b (hosts : Int) names lk = true := by
  have s := steps_ok
  rw [Bool.and_eq_true] at s
  rcases h with ⟨rfl, rfl⟩ | ⟨rfl, rfl⟩
  · exact List.all_eq_true.mp (List.all_eq_true.mp s.1 names hn) lk hl
  · exact List.all_eq_true.mp (List.all_eq_true.mp s.2 names hn) lk hl
theorem dstep_kept (b : Nat) (w : Int) (n : List Nat) (e k : List Int) (lk : List Nat) : dstep b w ⟨n, e, k⟩ lk = ⟨(dstep b w ⟨n, e, []⟩ lk).names, (dstep b w ⟨n, e, []⟩ lk).earned, k ++ (dstep b w ⟨n, e, []⟩ lk).kept⟩ := by
  unfold dstep
  dsimp only
  split <;> rfl
theorem LK_rgb : ∀ lk ∈ LK, ∀ c ∈ lk, c ∈ RGB := by decide
structure DInv (b hosts : Nat) (lks : List (List Nat)) (st : DS) : Prop where
  names : st.names ∈ reach b
  earned : st.earned = earnedOf b st.names
  len : st.kept.length = lks.length
  sum : st.earned.sum + st.kept.sum + (hosts : Int) * st.names.length = (hosts : Int) * (3 * b : Nat)
  q : ∀ e ∈ st.kept, e ∈ ([0, 1, 3, 5] : List Int)
  cov : ∀ (i : Nat) lk e, lks[i]? = some lk → st.kept[i]? = some e → ∀ c ∈ lk, (b : Int) * ((hosts : Int) - ((b ^ b : Nat) : Int)) ≤ earnE b (st.names.count c) + (b : Int) * e
theorem DInv.step {b hosts : Nat} (h : BH b hosts) {lks : List (List Nat)} {st : DS} {lk : List Nat} (I : DInv b hosts lks st) (hl : lk ∈ LK) (hls : ∀ l ∈ lks, l ∈ LK) : DInv b hosts (lks ++ [lk]) (dstep b (hosts : Int) st lk) := by
  walk_at "open"
  obtain ⟨n, e, k⟩ := st
  obtain ⟨h1, h2, h3, h4, h5, h6⟩ := I
  walk_at "shut"
  dsimp only at h1 h2 h3 h4 h5 h6
  subst h2
  have s := step_ok h h1 hl
  rw [dstep_kept]
  unfold stepOk at s
  dsimp only at s
  generalize hr : dstep b (hosts : Int) ⟨n, earnedOf b n, []⟩ lk = r at s ⊢
  walk_at "open"
  obtain ⟨n', e', k'⟩ := r
  walk_at "shut"
  dsimp only at s ⊢
  rw [Bool.and_eq_true, Bool.and_eq_true, Bool.and_eq_true] at s
  walk_at "open"
  obtain ⟨⟨⟨s1, s2⟩, s3⟩, s4⟩ := s
  walk_at "shut"
  have s2 := eq_of_beq s2
  subst s2
  walk_at "open"
  obtain ⟨q, rfl, s3⟩ := one1_of s3
  walk_at "shut"
  · rw [Bool.and_eq_true, Bool.and_eq_true] at s3
    walk_at "open"
    obtain ⟨⟨t1, t2⟩, t3⟩ := s3
    walk_at "shut"
    have t3 := of_decide_eq_true t3
    refine ⟨List.elem_iff.mp s1, rfl, by simp [h3], ?_, ?_, ?_⟩
    · dsimp only
      rw [List.sum_append, show ([q] : List Int).sum = q by simp]
      lia
    · intro e he
      dsimp only at he
      rcases List.mem_append.mp he with he | he
      · exact h5 e he
      · rw [List.mem_singleton.mp he]; exact List.elem_iff.mp t1
    · intro i lk' e hi he c hc
      dsimp only at he ⊢
      by_cases hil : i < lks.length
      · rw [List.getElem?_append_left hil] at hi
        rw [List.getElem?_append_left (by lia)] at he
        have z := h6 i lk' e hi he c hc
        have m := of_decide_eq_true (List.all_eq_true.mp s4 c (LK_rgb lk' (hls _ (List.mem_of_getElem? hi)) c hc))
        lia
      · rw [List.getElem?_append_right (by lia)] at hi
        rw [List.getElem?_append_right (by lia)] at he
        have hz : i - lks.length = 0 := by
          rcases Nat.eq_zero_or_pos (i - lks.length) with q | q
          · exact q
          · rw [List.getElem?_eq_none (by simp; lia)] at hi; cases hi
        rw [hz] at hi
        rw [show i - k.length = 0 by lia] at he
        simp at hi he
        subst hi he
        exact of_decide_eq_true (List.all_eq_true.mp t2 c hc)
theorem start_earned : earnedOf 1 (rep 1) = [0, 0, 0] ∧ earnedOf 2 (rep 2) = [0, 0, 0] := by decide
theorem DInv.start {b hosts : Nat} (h : BH b hosts) : DInv b hosts [] ⟨rep b, [0, 0, 0], []⟩ := by
  refine ⟨reach_start (by rcases h with ⟨h, _⟩ | ⟨h, _⟩ <;> simp [h]), ?_, rfl, ?_, (fun _ h => nomatch h), (fun i lk e hi => by cases hi)⟩
  · rcases h with ⟨rfl, rfl⟩ | ⟨rfl, rfl⟩
    · exact start_earned.1.symm
    · exact start_earned.2.symm
  · dsimp only
    rw [rep_len]
    simp
theorem DInv.fold {b hosts : Nat} (h : BH b hosts) : ∀ (l pre : List (List Nat)) (st : DS), DInv b hosts pre st → (∀ x ∈ pre ++ l, x ∈ LK) → DInv b hosts (pre ++ l) (l.foldl (dstep b (hosts : Int)) st)
  | [], pre, st, I, _ => by rw [List.append_nil]; exact I
  | a :: l, pre, st, I, hl => by
    have := DInv.fold h l (pre ++ [a]) _ (I.step h (hl a (by simp)) (fun x hx => hl x (by simp [hx]))) (fun x hx => hl x (by simpa using hx))
    simpa using this
theorem din_inv {b hosts : Nat} (h : BH b hosts) (xs : List Int) : DInv b hosts (xs.map lkOf) (dinner b (hosts : Int) (xs.map lkOf)) := by
  have := DInv.fold h (xs.map lkOf) [] _ (DInv.start h) (fun x hx => by
    walk_at "open"
    obtain ⟨y, _, rfl⟩ := List.mem_map.mp (by simpa using hx)
    walk_at "shut"
    exact lkOf_LK y)
  simpa [dinner] using this
end Mine
namespace Mine
noncomputable def lkm (m : Int) : List Nat := (if (m.fdiv 1).fmod 2 = 1 then [114] else []) ++ (if (m.fdiv 2).fmod 2 = 1 then [103] else []) ++ (if (m.fdiv 4).fmod 2 = 1 then [98] else [])
noncomputable def maskOf (b : Nat) (names : List Nat) (t : Int) : Int := (if t ≤ earnE b (names.count 114) then 1 else 0) + (if t ≤ earnE b (names.count 103) then 2 else 0) + (if t ≤ earnE b (names.count 98) then 4 else 0)
noncomputable def ind (p : Bool) : Int := if p then 1 else 0
noncomputable def cutOk (b : Nat) (w t1 t2 w1 w2 : Int) (names : List Nat) : Bool :=
  decide (w2 * ((b : Int) * pop (maskOf b names t2)) + w1 * ((b : Int) * pop (maskOf b names t1)) = (earnedOf b names).sum) && decide (0 ≤ maskOf b names t1) && decide (maskOf b names t1 < 8) && decide (0 ≤ maskOf b names t2) && decide (maskOf b names t2 < 8) && decide (names.length ≤ 3 * b) &&
  (earnedOf b names).all (fun e => decide (0 ≤ e) && decide (e ≤ 100)) &&
  ([1, 2, 3, 4, 5, 6, 7] : List Int).all fun m => ([0, 1, 3, 5] : List Int).all fun q =>
    !((lkm m).all fun c => decide ((b : Int) * (w - ((b ^ b : Nat) : Int)) ≤ earnE b (names.count c) + (b : Int) * q)) || decide (w2 * ind (hitB (maskOf b names t2) m) + w1 * ind (hitB (maskOf b names t1) m) ≤ q)
theorem cuts_ok : (((reach 1).all fun names => cutOk 1 2 1 1 1 0 names) && ((reach 2).all fun names => cutOk 2 9 10 4 3 2 names)) = true := by decide +kernel
theorem filter_ind (f : Int → Bool) : ∀ ms : List Int, ((ms.filter f).length : Int) = (ms.map fun m => ind (f m)).sum
  | [] => rfl
  | m :: ms => by
    rw [List.filter_cons, List.map_cons, List.sum_cons, ← filter_ind f ms]
    unfold ind
    split
    · next h => simp [h]; lia
    · next h => simp [h]
theorem sum_le (f : Int → Int) : ∀ (ms qs : List Int), ms.length = qs.length → (∀ (i : Nat) m q, ms[i]? = some m → qs[i]? = some q → f m ≤ q) → (ms.map f).sum ≤ qs.sum
  | [], [], _, _ => Int.le_refl _
  | [], _ :: _, h, _ => by cases h
  | _ :: _, [], h, _ => by cases h
  | m :: ms, q :: qs, h, H => by
    have h0 := H 0 m q rfl rfl
    have h1 := sum_le f ms qs (by simpa using h) fun i m q hm hq => H (i + 1) m q (by simpa using hm) (by simpa using hq)
    simp only [List.map_cons, List.sum_cons]
    lia
theorem sum_lin (f g : Int → Int) (a c : Int) : ∀ ms : List Int, (ms.map fun m => a * f m + c * g m).sum = a * (ms.map f).sum + c * (ms.map g).sum
  | [] => by simp
  | m :: ms => by
    simp only [List.map_cons, List.sum_cons, sum_lin f g a c ms, Int.mul_add]
    lia
theorem pop_range (j : Int) : 0 ≤ pop j ∧ pop j ≤ 3 := by
  have a := fun x : Int => Int.emod_nonneg x (show (2 : Int) ≠ 0 by decide)
  have b := fun x : Int => Int.lt_add_one_iff.mp (Int.emod_lt_of_pos x (show (0 : Int) < 1 + 1 by decide))
  exact ⟨Int.add_nonneg (Int.add_nonneg (a _) (a _)) (a _), Int.add_le_add (Int.add_le_add (b _) (b _)) (b _)⟩
theorem cutOk_at {b hosts : Nat} (h : BH b hosts) {names : List Nat} (hn : names ∈ reach b) : ∃ t1 t2 w1 w2 : Int, 0 ≤ w1 ∧ 0 ≤ w2 ∧ w1 + w2 = (hosts : Int) - ((b ^ b : Nat) : Int) ∧ cutOk b (hosts : Int) t1 t2 w1 w2 names = true := by
  have s := cuts_ok
  rw [Bool.and_eq_true] at s
  rcases h with ⟨rfl, rfl⟩ | ⟨rfl, rfl⟩
  · exact ⟨1, 1, 1, 0, by decide, by decide, by decide, List.all_eq_true.mp s.1 names hn⟩
  · exact ⟨10, 4, 3, 2, by decide, by decide, by decide, List.all_eq_true.mp s.2 names hn⟩
theorem cut_mem {ms : List Int} {b j : Int} (h0 : 0 ≤ j) (h8 : j < 8) : cutOf ms b j ∈ cutsTo ms b 8 := by
  unfold cutsTo
  refine List.mem_map.mpr ⟨j.toNat, List.mem_range.mpr (by lia), ?_⟩
  rw [Int.toNat_of_nonneg h0]
theorem earned_at {b : Nat} {names : List Nat} {k c : Nat} {e : Int} (h : (earnedOf b names)[k]? = some e) (hc : RGB[k]? = some c) : e = earnE b (names.count c) := by
  unfold earnedOf at h
  rw [List.getElem?_map, hc] at h
  injection h with h
  exact h.symm
theorem din_all : DinAll := by
  intro b hosts xs hb h6
  have I := din_inv hb xs
  unfold DinOk
  generalize dinner b (hosts : Int) (xs.map lkOf) = st at I ⊢
  walk_at "open"
  obtain ⟨names, earned, kept⟩ := st
  obtain ⟨i1, i2, i3, i4, i5, i6⟩ := I
  walk_at "shut"
  dsimp only at i1 i2 i3 i4 i5 i6 ⊢
  subst i2
  walk_at "open"
  obtain ⟨t1, t2, w1, w2, hw1, hw2, hww, hc⟩ := cutOk_at hb i1
  walk_at "shut"
  unfold cutOk at hc
  simp only [Bool.and_eq_true, decide_eq_true_eq] at hc
  walk_at "open"
  obtain ⟨⟨⟨⟨⟨⟨⟨c1, c2⟩, c3⟩, c4⟩, c5⟩, c6⟩, c7⟩, c8⟩ := hc
  walk_at "shut"
  have hsum : (earnedOf b names).sum + kept.sum = (hosts : Int) * (3 * (b : Int) - (names.length : Nat)) := by
    rw [Int.mul_sub]
    have : ((3 * b : Nat) : Int) = 3 * (b : Int) := by lia
    rw [this] at i4
    lia
  rw [List.length_map] at i3
  refine ⟨hsum, c6, rfl, by lia, fun e he => ?_, fun e he => ?_, ?_, ?_⟩
  · have z := List.all_eq_true.mp c7 e he
    simpa using z
  · have z := i5 e he
    simp only [List.mem_cons, List.not_mem_nil, or_false] at z
    lia
  · intro i k x hx c hc hcl e q he hq
    rw [earned_at he hc]
    exact i6 i (lkOf x) q (by rw [List.getElem?_map, hx]; rfl) hq c hcl
  · intro v hv hmin
    have hv1 := hmin _ (cut_mem (ms := xs.map mk7) (b := (b : Int)) c2 c3)
    have hv2 := hmin _ (cut_mem (ms := xs.map mk7) (b := (b : Int)) c4 c5)
    have hrange : 0 ≤ v ∧ v ≤ 100 := by
      unfold cutsTo at hv
      walk_at "open"
      obtain ⟨j, _, hj⟩ := List.mem_map.mp hv
      walk_at "shut"
      rw [← hj]
      have p := pop_range (j : Int)
      have fl : (((xs.map mk7).filter (hitB (j : Int))).length) ≤ 6 := Nat.le_trans (List.length_filter_le _ _) (by rw [List.length_map]; lia)
      unfold cutOf
      rcases hb with ⟨h1, _⟩ | ⟨h1, _⟩
      · rw [h1]; simp only [Int.natCast_one, Int.one_mul]; lia
      · have : ((2 : Nat) : Int) = 2 := rfl
        rw [h1, this]; lia
    refine ⟨hrange.1, hrange.2, ?_⟩
    have hper := sum_le (fun m => w2 * ind (hitB (maskOf b names t2) m) + w1 * ind (hitB (maskOf b names t1) m)) (xs.map mk7) kept (by rw [List.length_map, i3]) (fun i m q hm hq => by
      rw [List.getElem?_map] at hm
      cases hx : xs[i]? with
      | none => rw [hx] at hm; cases hm
      | some x =>
        rw [hx] at hm
        injection hm with hm
        have hq4 := i5 q (List.mem_of_getElem? hq)
        have hm7 : m ∈ ([1, 2, 3, 4, 5, 6, 7] : List Int) := by
          rw [← hm]
          have := mk7_cases x
          simp only [List.mem_cons, List.not_mem_nil, or_false]
          exact this
        have z := List.all_eq_true.mp (List.all_eq_true.mp c8 m hm7) q hq4
        rw [Bool.or_eq_true] at z
        rcases z with z | z
        · exfalso
          rw [Bool.not_eq_true'] at z
          have : ((lkm m).all fun c => decide ((b : Int) * ((hosts : Int) - ((b ^ b : Nat) : Int)) ≤ earnE b (names.count c) + (b : Int) * q)) = true := by
            rw [List.all_eq_true]
            intro c hc
            rw [← hm] at hc
            exact decide_eq_true (i6 i (lkOf x) q (by rw [List.getElem?_map, hx]; rfl) hq c hc)
          rw [this] at z
          cases z
        · exact of_decide_eq_true z)
    rw [sum_lin (fun m => ind (hitB (maskOf b names t2) m)) (fun m => ind (hitB (maskOf b names t1) m)), ← filter_ind, ← filter_ind] at hper
    unfold cutOf at hv1 hv2
    generalize ((((xs.map mk7).filter (hitB (maskOf b names t1))).length : Nat) : Int) = n1 at hv1 hper
    generalize ((((xs.map mk7).filter (hitB (maskOf b names t2))).length : Nat) : Int) = n2 at hv2 hper
    have m1 := Int.mul_le_mul_of_nonneg_left hv1 hw1
    have m2 := Int.mul_le_mul_of_nonneg_left hv2 hw2
    rw [Int.mul_add] at m1 m2
    have key : ((hosts : Int) - ((b ^ b : Nat) : Int)) * v ≤ (hosts : Int) * (3 * (b : Int) - (names.length : Nat)) := by
      rw [← hww, Int.add_mul]
      lia
    generalize ((hosts : Int) - ((b ^ b : Nat) : Int)) * v = y at key ⊢
    have hh : 0 ≤ (hosts : Int) := Int.ofNat_nonneg _
    rw [Int.fdiv_eq_ediv_of_nonneg _ hh]
    clear hh m1 m2 hv1 hv2 hper hmin hv hsum
    rcases hb with ⟨h1, h2⟩ | ⟨h1, h2⟩
    · have e2 : ((2 : Nat) : Int) = 2 := rfl
      have e1 : ((1 : Nat) : Int) = 1 := rfl
      rw [h1, h2, e2, e1] at key
      rw [h1, h2, e2, e1]
      lia
    · have e2 : ((2 : Nat) : Int) = 2 := rfl
      have e9 : ((9 : Nat) : Int) = 9 := rfl
      rw [h1, h2, e2, e9] at key
      rw [h1, h2, e2, e9]
      lia
end Mine

end
section
open PySem.Spec PyProof.V PySem PySem.W PySem.W.X PyProof.Rows PySem.Calls
namespace Mine
section
variable {prog : Program} {w : World} {A : Around} {E : Value → Shared → Prop} {s : Shared} {h₀ : Heap} {L l b D : Addr} {m : Str → Option Value} {news : Led}
theorem lst_add {xs ys : List Value} {n k : Nat} {Q : Value → Shared → Prop} (F : Fr h₀ L s.heap m) (N : News h₀ L s.heap news) (hm : (l, W.listOf xs.toArray n) ∈ news) (hb : (b, W.listOf ys.toArray k) ∈ news) (hz : xs.length + ys.length ≤ 1000)
    (h : ∀ D h', Fr h₀ L h' m → News h₀ L h' ((D, W.listOf (xs ++ ys).toArray 0) :: news) → (∀ p ∈ news, p.1 < D) → Q (.ref D) { s with heap := h' }) : wpAny (model prog w) A (binaryOp .Add (.ref l) (.ref b)) Q E s :=
  add_lists (hsz := by rw [sizeLine_eq]; lia) F N ⟨_, (N _ hm).1, rfl, n, rfl⟩ ⟨_, (N _ hb).1, rfl, k, rfl⟩ fun h' F' N' => h _ h' F' N' fun p hp => Heap.lt_size (N p hp).1
theorem lst_extend {xs ys : List Value} {n k : Nat} {g : Obj → Led} {Q : Value → Shared → Prop} (F : Fr h₀ L s.heap m) (N : News h₀ L s.heap news) (U : UpdF D (W.listOf xs.toArray n) news g) (hb : (b, W.listOf ys.toArray k) ∈ news) (hz : xs.length + ys.length ≤ 1000)
    (h : ∀ h' n', Fr h₀ L h' m → News h₀ L h' (g (W.listOf (xs ++ ys).toArray n')) → Q .none { s with heap := h' }) : wpAny (model prog w) A (call (.builtin "list.extend") [.ref D, .ref b]) Q E s := by
  walk_at "open"
  obtain ⟨pre, post, e, hg, h1, h2⟩ := U.split
  walk_at "shut"
  subst e
  exact extend_in (hsz := by rw [sizeLine_eq]; simp; lia) F N h1 h2 (N _ hb).1 fun h' n' F' N' => h h' n' F' (hg _ ▸ N')
theorem erase_split {c : Nat} : ∀ {ns : List Nat}, c ∈ ns → ∃ pre post, ns = pre ++ c :: post ∧ c ∉ pre ∧ ns.erase c = pre ++ post
  | [], h => nomatch h
  | a :: l, h => by
    by_cases q : a = c
    · subst q
      exact ⟨[], l, rfl, (fun h => nomatch h), by simp⟩
    · walk_at "open"
      obtain ⟨pre, post, e, hn, er⟩ := erase_split (ns := l) ((List.mem_cons.mp h).resolve_left fun x => q x.symm)
      walk_at "shut"
      refine ⟨a :: pre, post, by rw [e]; rfl, fun hm => ?_, ?_⟩
      · rcases List.mem_cons.mp hm with rfl | hm
        · exact q rfl
        · exact hn hm
      · rw [List.erase_cons_tail (by simpa using q), er]; rfl
theorem strs_split : ∀ {pre : List Nat} {c : Nat} {post : List Nat} {vs : List Value}, StrsAre vs ((pre ++ c :: post).map one) → ∃ vp t vq, vs = vp ++ .str (one c) t :: vq ∧ StrsAre vp (pre.map one) ∧ StrsAre vq (post.map one)
  | [], c, post, vs, h => by
    walk_at "open"
    obtain ⟨t, vq, e, h2⟩ := strs_cons h
    walk_at "shut"
    exact ⟨[], t, vq, e, .nil, h2⟩
  | a :: pre, c, post, vs, h => by
    walk_at "open"
    obtain ⟨t, vs', rfl, h2⟩ := strs_cons h
    obtain ⟨vp, u, vq, e, h3, h4⟩ := strs_split (pre := pre) h2
    walk_at "shut"
    exact ⟨.str (one a) t :: vp, u, vq, by rw [e]; rfl, .cons _ _ h3, h4⟩
theorem strs_app {xs ys : List Str} : ∀ {vs ws : List Value}, StrsAre vs xs → StrsAre ws ys → StrsAre (vs ++ ws) (xs ++ ys) := fun {vs ws} h k => by
  induction h with
  | nil => exact k
  | cons x t h ih => exact .cons x t ih
theorem erase_mid {α : Type} {x : α} {q : List α} : ∀ {p : List α}, (p ++ x :: q).eraseIdx p.length = p ++ q
  | [] => rfl
  | a :: p => by show a :: (p ++ x :: q).eraseIdx p.length = _; rw [erase_mid]; rfl
noncomputable def isOne (c : Nat) (v : Value) : Bool := match v with
  | .str x _ => x.cps.toList == (one c).cps.toList
  | _ => false
theorem strs_mem {vs : List Value} {xs : List Str} (h : StrsAre vs xs) : ∀ v ∈ vs, ∃ x t, v = .str x t ∧ x ∈ xs := by
  induction h with
  | nil => exact fun v hv => nomatch hv
  | cons x t h ih =>
    intro v hv
    rcases List.mem_cons.mp hv with rfl | hv
    · exact ⟨x, t, rfl, List.mem_cons_self ..⟩
    · walk_at "open"
      obtain ⟨y, u, e, hy⟩ := ih v hv
      walk_at "shut"
      exact ⟨y, u, e, List.mem_cons_of_mem _ hy⟩
theorem lst_remove {vs : List Value} {ns : List Nat} {n : Nat} {c : Nat} {t : Tok} {g : Obj → Led} {Q : Value → Shared → Prop} (F : Fr h₀ L s.heap m) (N : News h₀ L s.heap news) (U : UpdF D (W.listOf vs.toArray n) news g) (hs : StrsAre vs (ns.map one)) (hc : c ∈ ns) (hz : vs.length ≤ 1000)
    (h : ∀ h' ws, StrsAre ws ((ns.erase c).map one) → Fr h₀ L h' m → News h₀ L h' (g (W.listOf ws.toArray (n + 1))) → Q .none { s with heap := h' }) : wpAny (model prog w) A (call (.builtin "list.remove") [.ref D, .str ⟨#[c]⟩ t]) Q E s := by
  walk_at "open"
  obtain ⟨pre', post', e, hg, h1, h2⟩ := U.split
  walk_at "shut"
  subst e
  have z := N (D, W.listOf vs.toArray n) (List.mem_append.mpr (.inr (.head _)))
  walk_at "open"
  obtain ⟨pre, post, rfl, hnp, her⟩ := erase_split hc
  obtain ⟨vp, u, vq, rfl, hp, hq⟩ := strs_split hs
  walk_at "shut"
  have hj : vp.length < (vp ++ Value.str (one c) u :: vq).toArray.size := by simp
  have heq : ∀ y ∈ (vp ++ Value.str (one c) u :: vq).toArray, MeetsSeq.EqGives y (.str ⟨#[c]⟩ t) (isOne c y) := fun y hy => by
    walk_at "open"
    obtain ⟨x, tx, rfl, _⟩ := strs_mem hs y (by simpa using hy)
    walk_at "shut"
    exact SeqRoads2.EqGives.str _ _ _ _
  refine call_meets PySem.F.slot_list_remove ⟨_, z.1, rfl⟩ PySem.F.entry_list_remove (PySem.F.args_list_remove_2 _ _)
    (MeetsSeq.list_remove D (vp ++ Value.str (one c) u :: vq).toArray n (.str ⟨#[c]⟩ t) (isOne c) heq vp.length hj (by simp [isOne]) (fun i hi hlt => ?_) (by rw [sizeLine_eq, List.size_toArray]; lia))
    ⟨z.1, ?_⟩
  · have hv : (vp ++ Value.str (one c) u :: vq).toArray[i] ∈ vp := by
      have : (vp ++ Value.str (one c) u :: vq).toArray[i] = vp[i] := by simp [List.getElem_append_left hlt]
      rw [this]; exact List.getElem_mem _
    walk_at "open"
    obtain ⟨x, tx, e, hx⟩ := strs_mem hp _ hv
    walk_at "shut"
    rw [e]
    walk_at "open"
    obtain ⟨d, hd, rfl⟩ := List.mem_map.mp hx
    walk_at "shut"
    have : d ≠ c := fun q => hnp (q ▸ hd)
    simpa [isOne] using this
  · refine h _ (vp ++ vq) (by rw [her, List.map_append]; exact strs_app hp hq) (F.change (Heap.SameBut.update ..) z.2.1 z.2.2) (hg _ ▸ ki_turn _ N h1 h2 ?_ ?_)
    · show (vp ++ Value.str (one c) u :: vq).toArray.eraseIdxIfInBounds vp.length = (vp ++ vq).toArray
      apply Array.toList_inj.mp
      simp [Array.toList_eraseIdxIfInBounds]
      exact erase_mid
    · have : (vp ++ vq).toArray.size ≠ (vp ++ Value.str (one c) u :: vq).toArray.size := by simp
      rw [if_neg (by simpa using this)]
theorem pick_lo {l : List Value} {x : Int} (h : x = 0) : kms_pick l (some x) none = l := by
  subst h
  simp [kms_pick, kms_lo, kms_hi]
theorem pick_hi {l : List Value} {x : Int} (h : x = 0) : kms_pick l none (some x) = [] := by
  subst h
  simp [kms_pick, kms_lo, kms_hi]
end
end Mine

end
section
open PySem.Spec PyProof.V PySem PySem.W PySem.W.X PyProof.Rows PySem.Calls
namespace Mine
theorem slice3_ints {prog : Program} {w : World} {A : Around} {E : Value → Shared → Prop} {s : Shared} {h₀ : Heap} {L l : Addr} {m : Str → Option Value} {news : List (Addr × Obj)} {value slice : PySem.Expr} {vs : List Value} {ns : List Int} {vl vu vk : Value} {lo hi st : Option Int} {ops : List Value} {Q : Value → Shared → Prop} (iL : IntsAre vs ns)
    (F : Fr h₀ L s.heap m) (N : News h₀ L s.heap news) (hl : s.heap.IsList l vs.toArray) (pl : IsPart vl lo) (pu : IsPart vu hi) (pk : IsPart vk st) (h0 : st ≠ some 0)
    (h : ∀ zs ms D h', IntsAre zs ms → Fr h₀ L h' m → News h₀ L h' ((D, W.listOf zs.toArray 0) :: news) → (∀ p ∈ news, p.1 < D) → Q (.ref D) { s with heap := h' })
    (hs : subscripted slice false (.ref l) (.ref s.heap.objs.size) = operate ops (getItem (.ref l) (.ref s.heap.objs.size))) (ht : ∀ r, letTemporaryGo value (.ref l) r = pure ()) (hz : vs.toArray.size ≤ sizeLine) :
    wpAny (model prog w) A (subscriptTail value slice (.ref l) (.ref s.heap.objs.size)) Q E { s with heap := s.heap.push { cls := .type "slice", data := .fields #[vl, vu, vk] } } :=
  kmk_slice3_lit F N hl pl pu pk h0 rfl (fun D h' F' N' l1 => h _ _ D h' (iL.pick lo hi st) F' N' l1) hs ht hz
theorem c_draws {w : World} {p : Program} {loose : List Str} {mean : ExcName → Option Value} {mg mb : Str → Option Value} {A₀ : Around} {base h₀ : Heap} {outer : List Env} {cs : Scope} {L : Addr} {m : Str → Option Value} {s : Shared} {dp un : Nat} {gd : Option (List Code)} {cn : Str} {a : Addr} {ccd : Value} {cl : List (Str × Addr)} {rest : Led} {R : Result → Shared → Prop}
   {l : Addr} {vs : List Value} {ns : List Int} (hr : PySem.Challenge.rw_to0079_01 = PySem.Challenge.rw_to0079_01)
   (C : Ctx (Khp w.params) p loose mean mg mb A₀ base h₀ outer cs L m s dp 3 un 20) (N : News h₀ L s.heap rest) (hl : h₀.IsList l vs.toArray) (hi : IntsAre vs ns) (hsz : vs.toArray.size ≤ sizeLine)
   (k : ∀ t ds xs h' tk', IntsAre ds xs → ds.length = 6 → (∀ n ∈ xs, 0 ≤ n ∧ n < 1000000) → Fr h₀ L h' m → News h₀ L h' ((t, { cls := .type "list", data := .seq ds.toArray ds.length }) :: rest) → R (.ok (.ret (.ref t))) {s with heap := h', toks := tk'}) :
   codeAny (model PySem.Challenge.pw_to0079_01 w) (ktrTop dp un gd cn cs L a ccd cl outer) (.call (.ref 168) ⟨[.ref l], []⟩) R s := by
  revert hr C
  k_fill
  intro _ C
  refine' enterKC (M := []) C N (fun _ _ h => nomatch h) ?k6 ?k7 ?k9 ?kB ?kD ?_ ?c2 ?c3 ?c4
  case k6 => k_is
  case k7 => k_is
  case k9 => exact BindsTo.of_eq rfl
  case kB => exact rfl
  case kD => decide
  case c2 => exact rfl
  case c3 => exact rfl
  case c4 => exact rfl
  have hd := C.hd
  have hu := C.hu
  have hke := C.hke
  clear C N
  intro g' L' h₁ tk₁ cells FG' F' N' Y B' st X' T' fr l1 vk ak
  (try walk_at "red")
  walk_at "fold"
  have h1M : Halt "CompSrc" := trivial
  walk_at "open"
  obtain ⟨o1, o2, hE, d1, d2⟩ := CellsAre.two Y
  walk_at "shut"
  subst hE
  clear Y
  dsimp only [List.cons_append, List.nil_append] at N'
  k_lt l1
  replace F' : Fr g' L' h₁ (fun _ => none) := fr_congr F' (fun z => rfl)
  have hl' : g'.IsList l vs.toArray := Heap.IsList.at hl (fun o e => st _ _ e)
  clear st
  (try walk_at "fold")
  k_steps
  refine go_ ?_
  refine LCg.CompSrc.range (by rfl) (by k_asm) (by k_asm) (by assumption) (by first | decide | rfl) (n := 6) (by first | rfl | decide) (by first | size_fits | exact Nat.le_of_ble_eq_true rfl) ?_
  intro g9
  refine comp_all (JD _) 6 ?_ ?_ rfl ⟨Has.refl _, rfl, [], .nil, fun _ h => nomatch h⟩
  · rintro i ys nw v I oI C oC D m₂ h tk E' hi6 rq1 rq2 hC hx F N off ne
    walk_at "open"
    obtain ⟨t9, rfl⟩ := rq1
    obtain ⟨hH, hyl, ms, hms, hb⟩ := rq2
    walk_at "shut"
    replace off := has_off hH off
    replace N := has_news hH N
    clear hH
    simp only [LCg.Off3, and_true] at off
    (try walk_at "fold")
    have hM : Halt "subscriptTail" := trivial
    have hM2 : Halt "subscriptTail Name Slice ref ref" := trivial
    repeat' (first | (k_unfold; (try dsimp only)) | (k_end; wrow_close) | walk1 | (dsimp only; walk1) | (leave1; walk_say "STEP leave1"; try dsimp only) | fail "no step")
    refine go_ ?_
    ((with_reducible show wpAny _ _ (subscriptTail _ _ (Value.ref _) (Value.int (0 + ((_ : Nat) : Int)) _)) _ _ _); (with_reducible rename News _ _ _ _ => kN); k_dflt (refine' item_tuple_ints (vs := [_, _, _, _, _, _]) (ns := [44, 65, 21, 84, 5, 40]) ?k1 ?k2 ?k3 ?k4 ?k5 ?_; (case k1 => exact News.isTup kN (by k_mem)); (case k2 => exact .cons _ _ (.cons _ _ (.cons _ _ (.cons _ _ (.cons _ _ (.cons _ _ .nil)))))); (case k3 => lia); (case k4 => (show _ < (6 : Int); lia)); (case k5 => lia)); intro t')
    repeat' (first | (k_unfold; (try dsimp only)) | (k_end; wrow_close) | walk1 | (dsimp only; walk1) | (leave1; walk_say "STEP leave1"; try dsimp only) | fail "no step")
    refine go_ ?_
    ((with_reducible show wpAny _ _ (subscriptTail _ (PySem.Expr.Slice _ _ (some _) _) (Value.ref _) (Value.ref _)) _ _ _); k_dflt (refine' slice3_ints ?zqi ?zqF ?zqN ?zql ?zqp ?zqq ?zqk ?zqo ?_ ?zqs ?zqt ?zqz; (case zqF => k_asm); (case zqN => k_asm); (case zql => kmk_list); (case zqi => assumption); (case zqp => kmk_part); (case zqq => kmk_part); (case zqk => kmk_part); (case zqo => decide); (case zqs => with_unfolding_all rfl); (case zqt => kmk_pure); (case zqz => kmk_size)); intro zs' ms' D' h' hms' F' N' l1; (try k_lt l1))
    clear hM hM2
    repeat' (first | (k_unfold; (try dsimp only)) | (k_end; wrow_close) | walk1 | (dsimp only; walk1) | (leave1; walk_say "STEP leave1"; try dsimp only) | fail "no step")
    refine ⟨fun p hp => List.mem_cons_of_mem _ hp, by rw [List.length_append, hyl]; rfl, ms ++ [_], hms.append (.cons _ _ .nil), fun n hn => ?_⟩
    rcases List.mem_append.mp hn with hn | hn
    · exact hb n hn
    · rw [List.mem_singleton.mp hn]
      exact ⟨Int.fmod_nonneg_of_pos _ (by decide), Int.fmod_lt_of_pos _ (by decide)⟩
  · rintro ys nw rq1
    walk_at "open"
    obtain ⟨hH, hyl, ms, hms, hb⟩ := rq1
    walk_at "shut"
    (try walk_at "fold")
    k_steps
    rename News _ _ _ _ => N9
    refine leaveM_ (M' := [(_, LCg.lst ys)]) (by k_asm) (news_head N9) (fun F N => ?_)
    exact k _ ys ms _ _ hms hyl hb F N
end Mine

end
section
open PySem.Spec PyProof.V PySem PySem.W PySem.W.X PyProof.Rows PySem.Calls
namespace Mine
local macro_rules | `(tactic| k_room) => `(tactic| ((try simp only [depth_under_make, depth_under_kw, depth_in1, depth_deeper, depth_caller]); exact room (by assumption) (by decide)))
inductive MD1 (P : Params) (T : Led) (L la : Addr) (lo oca oct : Obj) (m' : Str → Option Value) (n' : Led) : Prop
  | mk (f c1 : Addr) (o1 : Obj) (T1 : Led) (dc pm ctv : Value) (e1 : m' = fun z => if z = Str.ofString "_law_read_on" then some (.ref f) else none)
      (e2 : n' = (f, roObj P [(Str.ofString "text", L + 1), (Str.ofString "at", L + 1 + 1)] dc pm c1 ctv) :: (la, lo) :: (L + 1 + 1, oca) :: (L + 1, oct) :: T1) (hc : codeHas o1 (Str.ofString "_law_machine.<locals>._law_read_on")) (hf : @LT.lt Nat _ la f) (h1 : @LT.lt Nat _ 177 c1)
      (hT : (T = [(177, tabObj #[])] ∧ T1 = [(177, tabObj #[rawInt 185, rawInt 4, .ref c1]), (c1, o1)] ∧ @LT.lt Nat _ la c1 ∧ @LT.lt Nat _ c1 f) ∨ ∃ c2 o2, T = tabLed c1 c2 o1 o2 ∧ T1 = tabLed c1 c2 o1 o2 ∧ @LT.lt Nat _ c1 c2 ∧ @LT.lt Nat _ c2 L ∧ codeHas o2 (Str.ofString "_law_machine.<locals>.<lambda>")) : MD1 P T L la lo oca oct m' n'
inductive MD2 (P : Params) (T : Led) (L la f c1 : Addr) (o1 lo oca oct : Obj) (dc pm ctv : Value) (m' : Str → Option Value) (n' : Led) : Prop
  | mk (fl c2 : Addr) (o2 : Obj) (flo : FuncData) (e1 : m' = fun z => if z = Str.ofString "stream" then some (.ref fl) else if z = Str.ofString "_law_read_on" then some (.ref f) else none)
      (e2 : n' = (fl, ⟨.type "function", none, .func flo, #[]⟩) :: (f, roObj P [(Str.ofString "text", L + 1), (Str.ofString "at", L + 1 + 1)] dc pm c1 ctv) :: (la, lo) :: (L + 1 + 1, oca) :: (L + 1, oct) :: tabLed c1 c2 o1 o2) (hc : codeHas o2 (Str.ofString "_law_machine.<locals>.<lambda>")) (hf : @LT.lt Nat _ f fl) (h12 : @LT.lt Nat _ c1 c2)
      (hT : T = [(177, tabObj #[])] ∨ T = tabLed c1 c2 o1 o2) (one : @LT.lt Nat _ c1 (L + 1) ∨ (@LT.lt Nat _ la c1 ∧ @LT.lt Nat _ c1 f)) (two : @LT.lt Nat _ c2 (L + 1) ∨ (@LT.lt Nat _ f c2 ∧ @LT.lt Nat _ c2 fl)) : MD2 P T L la f c1 o1 lo oca oct dc pm ctv m' n'
theorem andE8 {a b c d e f g h G : Prop} (x : a ∧ b ∧ c ∧ d ∧ e ∧ f ∧ g ∧ h) (k : a → b → c → d → e → f → g → h → G) : G := k x.1 x.2.1 x.2.2.1 x.2.2.2.1 x.2.2.2.2.1 x.2.2.2.2.2.1 x.2.2.2.2.2.2.1 x.2.2.2.2.2.2.2
theorem c_machineT {w : World} {p : Program} {loose : List Str} {mean : ExcName → Option Value} {mg mb : Str → Option Value} {A₀ : Around} {base h₀ : Heap} {outer : List Env} {cs : Scope} {L : Addr} {m : Str → Option Value} {s : Shared} {dp un : Nat} {gd : Option (List Code)} {cn : Str} {a : Addr} {ccd : Value} {cl : List (Str × Addr)} {rest : Led} {R : Result → Shared → Prop}
   {tx : Str} {tt : Nat} {T : Led} (hr : PySem.Challenge.rw_to0079_01 = PySem.Challenge.rw_to0079_01)
   (C : Ctx (Khp w.params) p loose mean mg mb A₀ base h₀ outer cs L m s dp 3 un 20) (hT : T = [(177, tabObj #[])] ∨ ∃ c1 c2 o1 o2, T = tabLed c1 c2 o1 o2 ∧ @LT.lt Nat _ 177 c1 ∧ @LT.lt Nat _ c1 c2 ∧ codeHas o1 (Str.ofString "_law_machine.<locals>._law_read_on") ∧ codeHas o2 (Str.ofString "_law_machine.<locals>.<lambda>")) (N : News h₀ L s.heap (T ++ rest)) (hap : ∀ p ∈ rest, p.1 ∉ T.map (·.1)) 
   (k : ∀ k c1 c2 o1 o2 tl pn tp h' tk', (T = [(177, tabObj #[])] ∨ T = tabLed c1 c2 o1 o2) → Mch.Ok k tx → k.c1 = c1 → Mch.Off k c1 c2 → codeHas o1 (Str.ofString "_law_machine.<locals>._law_read_on") → codeHas o2 (Str.ofString "_law_machine.<locals>.<lambda>") → (∀ q ∈ rest, @LT.lt Nat _ q.1 k.ct) → Fr h₀ L h' m → News h₀ L h' (k.own w.params 1 tl [] pn 0 tp ++ tabLed c1 c2 o1 o2 ++ rest) → R (.ok (.ret (.ref k.x))) {s with heap := h', toks := tk'}) :
   codeAny (model PySem.Challenge.pw_to0079_01 w) (ktrTop dp un gd cn cs L a ccd cl outer) (.call (.ref 182) ⟨[.str tx tt], []⟩) R s := by
  revert hr C
  k_fill
  intro _ C
  refine' enterKC (M := T) C N hap ?k6 ?k7 ?k9 ?kB ?kD ?_ ?c2 ?c3 ?c4
  case k6 => k_is
  case k7 => k_is
  case k9 => exact BindsTo.of_eq rfl
  case kB => exact rfl
  case kD => decide
  case c2 => exact rfl
  case c3 => exact rfl
  case c4 => exact rfl
  have hd := C.hd
  have hu := C.hu
  have hke := C.hke
  clear C N
  intro g' L' h₁ tk₁ cells FG' F' N' Y B' st X' T' fr l1 vk ak
  (try walk_at "red")
  walk_at "fold"
  walk_at "open"
  obtain ⟨o1, o2, hE, d1, d2⟩ := CellsAre.two Y
  walk_at "shut"
  subst hE
  clear Y
  have ab : @LE.le Nat _ g'.objs.size L' := F'.above
  have hcode : CodeHd g' 181 177 := codeHd_of_K X' (by kernel_rfl!)
  dsimp only [List.cons_append, List.nil_append] at N'
  have h177 : @LT.lt Nat _ 177 L' := by rcases hT with rfl | ⟨c1, c2, q1, q2, rfl, _⟩ <;> exact l1 (177, _) (by first | k_mem | (unfold tabLed; k_mem))
  have hA1 : ∀ p ∈ T, p.1 ≠ L' + 1 := fun p hp => Nat.ne_of_lt (Nat.lt_succ_of_lt (l1 p hp))
  have hA2 : ∀ p ∈ T, p.1 ≠ L' + 1 + 1 := fun p hp => Nat.ne_of_lt (Nat.lt_succ_of_lt (Nat.lt_succ_of_lt (l1 p hp)))
  clear st
  have mark : Halt "exec FunctionDef" := trivial
  k_steps
  refine go_ ?_
  clear mark
  rename Fr _ _ _ _ => F9
  rename News _ _ _ _ => N9
  rename_i la _ lla _ oca dA
  have lTa : ∀ p ∈ T, p.1 ≠ la := fun p hp => Nat.ne_of_lt (Nat.lt_trans (l1 p hp) (Nat.lt_trans (Nat.lt_succ_self _) lla.2.1))
  have hin := @rfl _ (innerIn w.params 182)
  conv at hin => rhs; whnf
  have hroo : ∀ dc pm c ctv, roObj w.params [(Str.ofString "text", L' + 1), (Str.ofString "at", L' + 1 + 1)] dc pm c ctv = fnMade (innerIn w.params 182).1 (Str.ofString "_law_machine.<locals>._law_read_on") (innerIn w.params 182).2.1 (innerIn w.params 182).2.2.1 (innerIn w.params 182).2.2.2 [(Str.ofString "text", L' + 1), (Str.ofString "at", L' + 1 + 1)] dc pm c ctv := fun _ _ _ _ => rfl
  rw [hin] at hroo
  dsimp only at hroo
  refine cutQ g' L' (MD1 w.params T L' la (W.listOf #[.int 0 tk₁] 0) oca o2) ?_ ?_
  · rcases hT with rfl | ⟨c1, c2, q1, q2, rfl, h1, h12, k1, k2⟩
    · k_steps
      rename News _ _ _ _ => N3
      rename_i f c oc _ _ ct dc _ _ dd1 dd2 lc lf _ _
      change News g' L' _ ((_, fnMade _ (Str.ofString "_law_machine.<locals>._law_read_on") _ _ _ _ _ _ _ _) :: _) at N3
      rw [← hroo] at N3
      refine post_ (by k_asm) (news_blk [[_], [_], [_], [_], [_], [_]] [0, 2, 3, 4, 5, 1] N3) ⟨_, _, _, _, _, _, _, rfl, rfl, ⟨_, _, dd1, dd2⟩, by first | k_clsL | lia, by first | k_clsL | lia, .inl ⟨rfl, rfl, by first | k_clsL | lia, by first | k_clsL | lia⟩⟩
    · have hcL : @LT.lt Nat _ c2 L' := l1 (c2, q2) (.head _)
      walk_at "open"
      obtain ⟨vs1, u1, x1, y1⟩ := k1
      walk_at "shut"
      unfold tabLed at N9 hA1 hA2 lTa
      k_steps
      rename News _ _ _ _ => N3
      rename_i f ct dc _ _ lf _ _
      change News g' L' _ ((_, fnMade _ (Str.ofString "_law_machine.<locals>._law_read_on") _ _ _ _ _ _ _ _) :: _) at N3
      rw [← hroo] at N3
      refine post_ (by k_asm) N3 ⟨_, _, _, _, _, _, _, rfl, rfl, ⟨_, _, x1, y1⟩, by first | k_clsL | lia, h1, .inr ⟨_, _, rfl, rfl, h12, hcL, k2⟩⟩
  clear F9 N9 hroo hin hT lTa hA1 hA2
  rintro h2 tk2 m2 n2 F2 N2 rq
  walk_at "open"
  obtain ⟨f, c1, q1, T1, dc, pm, ctv, rfl, rfl, k1, hf, h1, hT1⟩ := rq
  walk_at "shut"
  have mark : Halt "exec Assign cons Lambda" := trivial
  (try walk_at "red")
  (try walk_at "fold")
  k_steps
  refine go_ ?_
  clear mark
  refine cutQ g' L' (MD2 w.params T L' la f c1 q1 (W.listOf #[.int 0 tk₁] 0) oca o2 dc pm ctv) ?_ ?_
  · rcases hT1 with ⟨hT, rfl, hlc, hcf⟩ | ⟨c2, q2, hT, rfl, h12, hcL, k2⟩
    · k_steps
      rename News _ _ _ _ => N3
      rename_i fl c2 oc _ _ ct _ _ dd1 dd2 lc lf _ _
      refine post_ (by k_asm) (news_blk [[_], [_], [_], [_], [_], [_], [_], [_]] [0, 2, 3, 4, 5, 1, 7, 6] N3) ⟨_, _, _, _, rfl, rfl, ⟨_, _, dd1, dd2⟩, by first | k_clsL | lia, by first | k_clsL | lia, .inl hT, .inr ⟨hlc, hcf⟩, .inr ⟨by first | k_clsL | lia, lf⟩⟩
    · walk_at "open"
      obtain ⟨vs1, u1, x1, y1⟩ := k2
      walk_at "shut"
      unfold tabLed at N2
      k_steps
      rename News _ _ _ _ => N3
      rename_i fl ct _ _ lf _ _
      refine post_ (by k_asm) N3 ⟨_, _, _, _, rfl, rfl, ⟨_, _, x1, y1⟩, lf.1, h12, .inr hT, .inl (Nat.lt_trans h12 (Nat.lt_succ_of_lt hcL)), .inl (Nat.lt_succ_of_lt hcL)⟩
  · clear F2 N2 hT1
    rintro h2 tk2 m2 n2 F2 N2 rq
    walk_at "open"
    obtain ⟨fl, c2, q2, flo, rfl, rfl, k2, hfl, h12, hT, one, two⟩ := rq
    walk_at "shut"
    unfold tabLed at N2
    (try walk_at "red")
    (try walk_at "fold")
    k_steps
    refine set_fn (by k_asm) (by k_asm) (by k_all) (fun D tt h2 tk2 F2 N2 l2 => ?_)
    k_lt l2
    k_steps
    refine leaveM_ (by k_asm) (by k_asm) (fun F N => ?_)
    refine (mach_made1 N (by assumption) (by assumption) (by lia) rfl rfl k1 k2 rfl).elim fun k' z => andE8 z fun e1 e2 e3 e4 e5 e6 e7 N => ?_
    rw [← e1]
    exact k k' _ _ _ _ _ _ _ _ _ hT e2 e3 ⟨⟨h1, h12, by rw [e7]; lia⟩, by rw [e7, e5, e6]; exact one, by rw [e7, e6, e4]; exact two⟩ k1 k2 (fun q hq => by (have z1 : @LT.lt Nat _ q.1 g'.objs.size := Heap.lt_size (fr q hq)); rw [e7]; (show @LT.lt Nat _ _ _); lia) F N
theorem c_machine0 {w : World} {p : Program} {loose : List Str} {mean : ExcName → Option Value} {mg mb : Str → Option Value} {A₀ : Around} {base h₀ : Heap} {outer : List Env} {cs : Scope} {L : Addr} {m : Str → Option Value} {s : Shared} {dp un : Nat} {gd : Option (List Code)} {cn : Str} {a : Addr} {ccd : Value} {cl : List (Str × Addr)} {rest : Led} {R : Result → Shared → Prop}
   {tx : Str} {tt : Nat} (hr : PySem.Challenge.rw_to0079_01 = PySem.Challenge.rw_to0079_01)
   (C : Ctx (Khp w.params) p loose mean mg mb A₀ base h₀ outer cs L m s dp 3 un 20) (N : News h₀ L s.heap ([(177, tabObj #[])] ++ rest)) (hap : ∀ p ∈ rest, p.1 ∉ ([(177, tabObj #[])] : Led).map (·.1)) 
   (k : ∀ k c1 c2 o1 o2 tl pn tp h' tk', Mch.Ok k tx → k.c1 = c1 → Mch.Off k c1 c2 → codeHas o1 (Str.ofString "_law_machine.<locals>._law_read_on") → codeHas o2 (Str.ofString "_law_machine.<locals>.<lambda>") → (∀ q ∈ rest, @LT.lt Nat _ q.1 k.ct) → Fr h₀ L h' m → News h₀ L h' (k.own w.params 1 tl [] pn 0 tp ++ tabLed c1 c2 o1 o2 ++ rest) → R (.ok (.ret (.ref k.x))) {s with heap := h', toks := tk'}) :
   codeAny (model PySem.Challenge.pw_to0079_01 w) (ktrTop dp un gd cn cs L a ccd cl outer) (.call (.ref 182) ⟨[.str tx tt], []⟩) R s :=
  c_machineT hr C (.inl rfl) N hap fun k' c1 c2 o1 o2 tl pn tp h' tk' _ => k k' c1 c2 o1 o2 tl pn tp h' tk'
theorem c_machine1 {w : World} {p : Program} {loose : List Str} {mean : ExcName → Option Value} {mg mb : Str → Option Value} {A₀ : Around} {base h₀ : Heap} {outer : List Env} {cs : Scope} {L : Addr} {m : Str → Option Value} {s : Shared} {dp un : Nat} {gd : Option (List Code)} {cn : Str} {a : Addr} {ccd : Value} {cl : List (Str × Addr)} {rest : Led} {R : Result → Shared → Prop}
   {tx : Str} {tt : Nat} {c1 c2 : Addr} {o1 o2 : Obj} (hr : PySem.Challenge.rw_to0079_01 = PySem.Challenge.rw_to0079_01)
   (C : Ctx (Khp w.params) p loose mean mg mb A₀ base h₀ outer cs L m s dp 3 un 20) (N : News h₀ L s.heap (tabLed c1 c2 o1 o2 ++ rest)) (hap : ∀ p ∈ rest, p.1 ∉ (tabLed c1 c2 o1 o2 : Led).map (·.1)) (h12 : @LT.lt Nat _ 177 c1 ∧ @LT.lt Nat _ c1 c2) (k1 : codeHas o1 (Str.ofString "_law_machine.<locals>._law_read_on")) (k2 : codeHas o2 (Str.ofString "_law_machine.<locals>.<lambda>"))
   (k : ∀ k tl pn tp h' tk', Mch.Ok k tx → k.c1 = c1 → Mch.Off k c1 c2 → (∀ q ∈ rest, @LT.lt Nat _ q.1 k.ct) → Fr h₀ L h' m → News h₀ L h' (k.own w.params 1 tl [] pn 0 tp ++ tabLed c1 c2 o1 o2 ++ rest) → R (.ok (.ret (.ref k.x))) {s with heap := h', toks := tk'}) :
   codeAny (model PySem.Challenge.pw_to0079_01 w) (ktrTop dp un gd cn cs L a ccd cl outer) (.call (.ref 182) ⟨[.str tx tt], []⟩) R s :=
  c_machineT hr C (.inr ⟨c1, c2, o1, o2, rfl, h12.1, h12.2, k1, k2⟩) N hap fun k' d1 d2 q1 q2 tl pn tp h' tk' hT a b c d e f F N => by
    rcases hT with hT | hT
    · cases hT
    · injection hT with h1 h2
      injection h2 with h2 h3
      injection h1 with h4 h5
      injection h2 with h6 h7
      subst h4 h5 h6 h7
      exact k k' tl pn tp h' tk' a b c f F N
end Mine

end
section
open PySem.Spec PyProof.V PySem PySem.W PySem.W.X PyProof.Rows PySem.Calls
namespace Mine
theorem c_tok {w : World} {p : Program} {loose : List Str} {mean : ExcName → Option Value} {mg mb : Str → Option Value} {A₀ : Around} {base h₀ : Heap} {outer : List Env} {cs : Scope} {L : Addr} {m : Str → Option Value} {s : Shared} {dp un : Nat} {gd : Option (List Code)} {cn : Str} {a : Addr} {ccd : Value} {cl : List (Str × Addr)} {rest : Led} {R : Result → Shared → Prop}
   {k : Mch} {text : Str} {line : Int} {pos : Nat} {tl tp : Tok} {pn : Nat} {ln : Nat} {wd rs : List Nat} {c1 c2 : Addr} {o1 o2 : Obj}  (hr : PySem.Challenge.rw_to0079_01 = PySem.Challenge.rw_to0079_01)
   (C : Ctx (Khp w.params) p loose mean mg mb A₀ base h₀ outer cs L m s dp 16 un 100) (N : News h₀ L s.heap (k.own w.params line tl [] pn pos tp ++ tabLed c1 c2 o1 o2 ++ rest)) (hap : ∀ p ∈ rest, p.1 ∉ (k.own w.params line tl [] pn pos tp ++ tabLed c1 c2 o1 o2 : Led).map (·.1)) (hk : Mch.Ok k text) (hk1 : k.c1 = c1) (k1 : codeHas o1 (Str.ofString "_law_machine.<locals>._law_read_on")) (hoff : Mch.Off k c1 c2)(hlx : Lx (text.cps.toList.drop pos) ln wd rs) (hp1 : pos ≤ text.length) (hp2 : text.length ≤ 100) (hl : 0 ≤ line ∧ line + ln ≤ 100)
   (kk : ∀ (pos' : Nat) (tt tp' tl' : Tok) h' tk', text.cps.toList.drop pos' = rs → pos' ≤ text.length → Fr h₀ L h' m → News h₀ L h' (k.own w.params (line + ln) tl' [] pn pos' tp' ++ tabLed c1 c2 o1 o2 ++ rest) → R (.ok (.ret (.str ⟨wd.toArray⟩ tt))) {s with heap := h', toks := tk'}) :
   codeAny (model PySem.Challenge.pw_to0079_01 w) (ktrTop dp un gd cn cs L a ccd cl outer) (.call (.ref 85) ⟨[.ref k.x], []⟩) R s := by
  revert hr C
  k_fill
  intro _ C
  refine' enterK (M := k.own w.params line tl [] pn pos tp ++ tabLed c1 c2 o1 o2) C N hap ?k6 ?k7 ?k9 ?kB ?_ ?c5 ?c2 ?c3 ?c4
  case k6 => k_is
  case k7 => k_is
  case k9 => exact BindsTo.of_eq rfl
  case kB => exact locs rfl
  case c5 => decide
  case c2 => exact rfl
  case c3 => exact rfl
  case c4 => exact rfl
  have hd := C.hd
  have hu := C.hu
  have hke := C.hke
  clear C N
  intro g' L' h₁ tk₁ FG' F' N' B' st X' T' fr l1 vk ak
  (try walk_at "red")
  walk_at "fold"
  dsimp only [Mch.own, tabLed, List.cons_append, List.nil_append] at N' l1
  have hcode : CodeHd g' 181 177 := codeHd_of_K X' (by kernel_rfl!)
  have ord := hk.ord
  have of1 := hoff.lt
  have of2 := hoff.one
  have of3 := hoff.two
  k_lt l1
  clear st
  replace F' : Fr g' L' h₁ (fun z => if z = Str.ofString "self" then some (.ref k.x) else none) := fr_congr F' (fun z => look1 z rfl)
  (try walk_at "fold")
  (try refine (let m : Str → Option Value := _; have F' : Fr _ _ _ m := ‹Fr _ _ _ _›; ?_))
  have hM : Halt "call builtin:iter" := trivial
  have hM2 : Halt "exec For Name Name cons nil" := trivial
  k_steps
  refine go_ ?_
  ((with_reducible show wpAny _ _ (call (Value.builtin "iter") [Value.ref _, Value.str _ _]) _ _ _); k_dflt (refine' iter_two' ?zk1 ?zk2 ?zk3 ?_; (case zk1 => k_asm); (case zk2 => k_asm); (case zk3 => k_mem)); intro I' zh zF zN l2; (try k_lt l2))
  k_steps
  refine go_ ?_
  ((with_reducible show wpAny _ _ (exec (Stmt.For (Expr.Name _ _) (Expr.Name _ _) _ _ _) _) _ _ _); k_dflt (refine' wpAny_For ?_ ?zhs; (case zhs => exact fun _ => rfl)))
  clear hM hM2
  k_steps
  rename_i q' _ l1 h9 F9 N9
  walk_at "open"
  obtain ⟨tq, N9⟩ : ∃ tq, News g' L' h9 ((I', citer q' tq) :: (q', methodObj (.ref 78) (.ref k.x)) :: (k.own w.params line tl [] pn pos tp ++ tabLed c1 c2 o1 o2)) := ⟨_, N9⟩
  walk_at "shut"
  have nI : I' ∉ (k.own w.params line tl [] pn pos tp ++ tabLed c1 c2 o1 o2 : Led).map (·.1) :=
    nin_app (own_above hk (by k_clsL)) (nin_map (l := tabLed c1 c2 o1 o2) (fcons (by k_ne) (fcons (by k_ne) (fcons (by k_ne) fnil))))
  have nq : q' ∉ (k.own w.params line tl [] pn pos tp ++ tabLed c1 c2 o1 o2 : Led).map (·.1) :=
    nin_app (own_above hk (by k_clsL)) (nin_map (l := tabLed c1 c2 o1 o2) (fcons (by k_ne) (fcons (by k_ne) (fcons (by k_ne) fnil))))
  have hpb : ∀ {p c : Nat} {r : List Nat}, text.cps.toList.drop p = c :: r → p + 1 ≤ text.length := fun h => by have := (drop_one h).2.2; rw [Array.length_toList] at this; exact this
  have nqI : q' ≠ I' := by k_ne
  refine citer_iter (N9 _ (List.mem_cons_self ..)).1 ?_
  refine for_c (hE := by passes_own) rfl rfl (JO w.params k text c1 c2 o1 o2 line ln pn wd rs I' q' tq) (n := (text.cps.toList.drop pos).length) ⟨ln, pos, line, tl, tp, _, hlx, rfl, hp1, rfl, Int.le_refl _, rfl, rfl, rfl, rfl⟩ F9 N9 ?_
  clear F9 N9 hlx hp1
  rintro n m₁ n₁ h tk rq1 F1 N1
  walk_at "open"
  obtain ⟨ln', pos', line', tl', tp', tt0, hlx, hn, hp', hln, hle, e1, e2, e3, rfl⟩ := rq1
  walk_at "shut"
  refine turn_c rfl ⟨B', F1, X', T', rfl, (room hd (by decide) : dp + 1 + 9 < recursionLimit), (room hu (by decide) : un + 3 + 50 < cLine)⟩ N1 nI nq nqI hk hk1 k1 hoff hp' hp2 (by lia) (fun c l tt tp2 tl2 h2 tk2 hc F2 N2 => ?_) (fun tp2 tl2 h2 tk2 hc F2 N2 => ?_)
  · refine ex3 _ _ _ ⟨rfl, F2, N2, fun h3 tk3 F3 N3 => ?_⟩
    have F4 := fr1 (fr1 (fr1 F3 (a := Str.ofString "self") ((if_neg (by decide +kernel)).trans e3)) (a := Str.ofString "fiter") ((if_neg (by decide +kernel)).trans e2)) (a := Str.ofString "token") ((if_neg (by decide +kernel)).trans e1)
    rw [hc] at hlx hn
    clear F2 N2 F3 F1 N1 e1 e2 e3
    cases hlx with
    | nl hlx =>
      rw [if_pos rfl] at N3
      have nws := nl_ws
      have nws1 := ne_true_of_eq_false nl_ws
      (try walk_at "fold")
      (try refine (let m : Str → Option Value := _; have F' : Fr _ _ _ m := ‹Fr _ _ _ _›; ?_))
      k_steps
      dsimp only [Turn]
      refine ⟨l.length, _, _, _, _, by rw [hn]; simp, rfl, F4, N3, ?_⟩
      exact ⟨_, pos' + 1, line' + 1, _, _, tt0, (drop_one hc).2.1.symm ▸ hlx, by rw [(drop_one hc).2.1], hpb hc, by lia, by lia, rfl, rfl, rfl, rfl⟩
    | q hw =>
      rw [if_neg (by decide)] at N3
      have nws := qu_ws
      have nws1 := ne_false_of_eq_true qu_ws
      (try walk_at "fold")
      (try refine (let m : Str → Option Value := _; have F' : Fr _ _ _ m := ‹Fr _ _ _ _›; ?_))
      have hM : Halt "exec For Name Name cons nil" := trivial
      k_steps
      refine go_ ?_
      clear hM
      refine' wpAny_For ?_ ?zhs
      case zhs => exact fun _ => rfl
      k_steps
      refine citer_iter (N3 _ (List.mem_cons_self ..)).1 ?_
      have hwl : wd.length ≤ 98 := by have := congrArg List.length hc; simp only [List.length_drop, List.length_cons, List.length_append, Array.length_toList] at this; exact wl98 this hp2
      refine for_c (hE := by passes_own) rfl rfl (JI w.params k text c1 c2 o1 o2 line' pn 34 wd rs I' q' tq) (n := wd.length) ⟨[], wd, pos' + 1, tl2, tp2, _, rfl, hw, (drop_one hc).2.1, rfl, hpb hc, rfl, rfl, rfl, rfl⟩ F4 N3 ?_
      clear F4 N3
      rintro n2 m₂ n₃ h4 tk4 rq1 F6 N6
      walk_at "open"
      obtain ⟨w1, w2, pos2, tl3, tp3, tt1, hw12, hgd, hdr, hn2, hp2', f1, f2, f3, rfl⟩ := rq1
      walk_at "shut"
      refine turn_c rfl ⟨B', F6, X', T', rfl, (room hd (by decide) : dp + 1 + 9 < recursionLimit), (room hu (by decide) : un + 3 + 50 < cLine)⟩ N6 nI nq nqI hk hk1 k1 hoff hp2' hp2 (by lia) (fun c3 l3 tt3 tp4 tl4 h5 tk5 hc3 F7 N7 => ?_) (fun tp4 tl4 h5 tk5 hc3 F7 N7 => ?_)
      · refine ex3 _ _ _ ⟨rfl, F7, N7, fun h6 tk6 F8 N8 => ?_⟩
        have F9 := fr1 (fr1 (fr1 F8 (a := Str.ofString "self") ((if_neg (by decide +kernel)).trans f3)) (a := Str.ofString "fiter") ((if_neg (by decide +kernel)).trans f2)) (a := Str.ofString "token") ((if_neg (by decide +kernel)).trans f1)
        clear F8 N7 F7 F6 N6 f1 f2 f3
        rw [hdr] at hc3
        cases w2 with
        | nil =>
          walk_at "open"
          obtain ⟨rfl, rfl⟩ := List.cons.inj hc3
          walk_at "shut"
          rw [if_neg (by decide)] at N8
          (try walk_at "fold")
          (try refine (let m : Str → Option Value := _; have F' : Fr _ _ _ m := ‹Fr _ _ _ _›; ?_))
          k_steps
          dsimp only [Turn]
          (try k_unfold)
          have eln : line' = line + ln := by simpa using hln
          have ew : wd = w1 := by simpa using hw12
          refine leaveM_ (M' := k.own w.params (line + ln) _ [] pn ((pos2 + 1 : Nat) : Int) _ ++ tabLed c1 c2 o1 o2) F9 (by rw [← eln]; exact news_d 2 N8) (fun F N => ?_)
          rw [← ew]
          exact kk (pos2 + 1) _ _ _ _ _ (drop_one (c := 34) (r := rs) hdr).2.1 (hpb (c := 34) (r := rs) hdr) F N
        | cons c4 w4 =>
          walk_at "open"
          obtain ⟨rfl, rfl⟩ := List.cons.inj hc3
          walk_at "shut"
          have hb : Str.length ⟨w1.toArray⟩ ≤ 100 := by show w1.toArray.size ≤ 100; rw [List.size_toArray]; have := congrArg List.length hw12; rw [List.length_append] at this; lia
          have hb1 : Str.length ⟨#[c4]⟩ = 1 := rfl
          have hg4 := hgd _ (List.mem_cons_self ..)
          have hd2 := drop_one (c := c4) (r := w4 ++ _ :: rs) hdr
          rw [if_neg hg4.2.1] at N8
          have nws4 := good_ws hg4
          have nws5 := eq_true_of_ne_false nws4
          have nq4 := good_q hg4
          have nb4 := good_b hg4
          (try walk_at "fold")
          (try refine (let m : Str → Option Value := _; have F' : Fr _ _ _ m := ‹Fr _ _ _ _›; ?_))
          k_steps
          dsimp only [Turn]
          rename Fr _ _ _ _ => F10
          rename News _ _ _ _ => N10
          refine ⟨w4.length, _, _, _, _, by rw [hn2]; simp, rfl, F10, N10, ?_⟩
          exact ⟨w1 ++ [c4], w4, pos2 + 1, _, _, _, by rw [hw12]; simp, fun x hx => hgd x (List.mem_cons_of_mem _ hx), hd2.2.1, rfl, hpb (c := c4) (r := w4 ++ _ :: rs) hdr, (by rw [tok_app]; rfl), rfl, rfl, rfl⟩
      · rw [hdr] at hc3
        cases w2 <;> cases hc3
    | u hg hw =>
      rename_i w'
      rw [if_neg hg.2.1] at N3
      have nws := good_ws hg
      have nws1 := eq_true_of_ne_false nws
      have nq1 := good_q hg
      have nb1 := good_b hg
      (try walk_at "fold")
      (try refine (let m : Str → Option Value := _; have F' : Fr _ _ _ m := ‹Fr _ _ _ _›; ?_))
      have hM : Halt "exec For Name Name cons nil" := trivial
      k_steps
      refine go_ ?_
      clear hM
      refine' wpAny_For ?_ ?zhs
      case zhs => exact fun _ => rfl
      k_steps
      rename Fr _ _ _ _ => F5
      rename News _ _ _ _ => N5
      refine citer_iter (N5 _ (List.mem_cons_self ..)).1 ?_
      have hwl : (c :: w').length ≤ 99 := by have := congrArg List.length hc; simp only [List.length_drop, List.length_cons, List.length_append, Array.length_toList] at this ⊢; exact Nat.succ_le_succ (wl98 this hp2)
      refine for_c (hE := by passes_own) rfl rfl (JI w.params k text c1 c2 o1 o2 line' pn 10 (c :: w') rs I' q' tq) (n := w'.length) ⟨[c], w', pos' + 1, tl2, tp2, _, rfl, hw, (drop_one hc).2.1, rfl, hpb hc, rfl, rfl, rfl, rfl⟩ F5 N5 ?_
      clear F5 N5
      rintro n2 m₂ n₃ h4 tk4 rq1 F6 N6
      walk_at "open"
      obtain ⟨w1, w2, pos2, tl3, tp3, tt1, hw12, hgd, hdr, hn2, hp2', f1, f2, f3, rfl⟩ := rq1
      walk_at "shut"
      refine turn_c rfl ⟨B', F6, X', T', rfl, (room hd (by decide) : dp + 1 + 9 < recursionLimit), (room hu (by decide) : un + 3 + 50 < cLine)⟩ N6 nI nq nqI hk hk1 k1 hoff hp2' hp2 (by lia) (fun c3 l3 tt3 tp4 tl4 h5 tk5 hc3 F7 N7 => ?_) (fun tp4 tl4 h5 tk5 hc3 F7 N7 => ?_)
      · refine ex3 _ _ _ ⟨rfl, F7, N7, fun h6 tk6 F8 N8 => ?_⟩
        have F9 := fr1 (fr1 (fr1 F8 (a := Str.ofString "self") ((if_neg (by decide +kernel)).trans f3)) (a := Str.ofString "fiter") ((if_neg (by decide +kernel)).trans f2)) (a := Str.ofString "token") ((if_neg (by decide +kernel)).trans f1)
        clear F8 N7 F7 F6 N6 f1 f2 f3
        rw [hdr] at hc3
        cases w2 with
        | nil =>
          walk_at "open"
          obtain ⟨rfl, rfl⟩ := List.cons.inj hc3
          walk_at "shut"
          rw [if_pos rfl] at N8
          have nws6 := nl_ws
          have nws7 := ne_true_of_eq_false nl_ws
          (try walk_at "fold")
          (try refine (let m : Str → Option Value := _; have F' : Fr _ _ _ m := ‹Fr _ _ _ _›; ?_))
          k_steps
          dsimp only [Turn]
          (try k_unfold)
          have eln : line' + 1 = line + ln := by exact hln
          have ew : c :: w' = w1 := by simpa using hw12
          refine leaveM_ (M' := k.own w.params (line + ln) _ [] pn ((pos2 + 1 : Nat) : Int) _ ++ tabLed c1 c2 o1 o2) F9 (by rw [← eln]; exact news_d 2 N8) (fun F N => ?_)
          rw [← ew]
          exact kk (pos2 + 1) _ _ _ _ _ (drop_one (c := 10) (r := rs) hdr).2.1 (hpb (c := 10) (r := rs) hdr) F N
        | cons c4 w4 =>
          walk_at "open"
          obtain ⟨rfl, rfl⟩ := List.cons.inj hc3
          walk_at "shut"
          have hb : Str.length ⟨w1.toArray⟩ ≤ 100 := by show w1.toArray.size ≤ 100; rw [List.size_toArray]; have := congrArg List.length hw12; rw [List.length_append] at this; lia
          have hb1 : Str.length ⟨#[c4]⟩ = 1 := rfl
          have hg4 := hgd _ (List.mem_cons_self ..)
          have hd2 := drop_one (c := c4) (r := w4 ++ _ :: rs) hdr
          rw [if_neg hg4.2.1] at N8
          have nws4 := good_ws hg4
          have nws5 := eq_true_of_ne_false nws4
          have nq4 := good_q hg4
          have nb4 := good_b hg4
          (try walk_at "fold")
          (try refine (let m : Str → Option Value := _; have F' : Fr _ _ _ m := ‹Fr _ _ _ _›; ?_))
          k_steps
          dsimp only [Turn]
          rename Fr _ _ _ _ => F10
          rename News _ _ _ _ => N10
          refine ⟨w4.length, _, _, _, _, by rw [hn2]; simp, rfl, F10, N10, ?_⟩
          exact ⟨w1 ++ [c4], w4, pos2 + 1, _, _, _, by rw [hw12]; simp, fun x hx => hgd x (List.mem_cons_of_mem _ hx), hd2.2.1, rfl, hpb (c := c4) (r := w4 ++ _ :: rs) hdr, (by rw [tok_app]; rfl), rfl, rfl, rfl⟩
      · rw [hdr] at hc3
        cases w2 <;> cases hc3
  · rw [hc] at hlx
    cases hlx
    have F4 := fr1 F2 (a := Str.ofString "token") e1
    clear F2
    (try walk_at "red")
    (try walk_at "fold")
    (try refine (let m : Str → Option Value := _; have F' : Fr _ _ _ m := ‹Fr _ _ _ _›; ?_))
    k_steps
    (try k_unfold)
    have eln : line' = line + ln := by simpa using hln
    refine leaveM_ (M' := k.own w.params (line + ln) _ [] pn pos' _ ++ tabLed c1 c2 o1 o2) F4 (by rw [← eln]; exact news_d 1 N2) (fun F N => ?_)
    (try walk_at "red")
    rw [show Str.ofString "" = ⟨([] : List Nat).toArray⟩ from tok_nil]
    exact kk pos' tt0 _ _ _ _ hc hp' F N
end Mine

end
section
open PySem.Spec PyProof.V PySem PySem.W PySem.W.X PyProof.Rows PySem.Calls
namespace Mine
theorem c_inb1 {w : World} {p : Program} {loose : List Str} {mean : ExcName → Option Value} {mg mb : Str → Option Value} {A₀ : Around} {base h₀ : Heap} {outer : List Env} {cs : Scope} {L : Addr} {m : Str → Option Value} {s : Shared} {dp un : Nat} {gd : Option (List Code)} {cn : Str} {a : Addr} {ccd : Value} {cl : List (Str × Addr)} {rest : Led} {R : Result → Shared → Prop}
   {c : Nat} {tc : Nat} {S : Int → Bool} {n : Nat} (hr : PySem.Challenge.rw_to0079_01 = PySem.Challenge.rw_to0079_01)
   (C : Ctx (Khp w.params) p loose mean mg mb A₀ base h₀ outer cs L m s dp 3 un 20) (N : News h₀ L s.heap rest) (hS : h₀.SetOf (intKind prg w) 107 S n)
   (k : ∀ h' tk', Fr h₀ L h' m → News h₀ L h' rest → R (.ok (.ret (.bool (S c)))) {s with heap := h', toks := tk'}) :
   codeAny (model PySem.Challenge.pw_to0079_01 w) (ktrTop dp un gd cn cs L a ccd cl outer) (.call (.ref 117) ⟨[.str ⟨#[c]⟩ tc], []⟩) R s := by
  revert hr C
  k_fill
  intro _ C
  refine' enterK (M := []) C N (fun _ _ h => nomatch h) ?k6 ?k7 ?k9 ?kB ?_ ?c5 ?c2 ?c3 ?c4
  case k6 => k_is
  case k7 => k_is
  case k9 => exact BindsTo.of_eq rfl
  case kB => exact locs rfl
  case c5 => decide
  case c2 => exact rfl
  case c3 => exact rfl
  case c4 => exact rfl
  have hd := C.hd
  have hu := C.hu
  have hke := C.hke
  clear C N
  intro g' L' h₁ tk₁ FG' F' N' B' st X' T' fr l1 vk ak
  (try walk_at "red")
  walk_at "fold"
  have hS' := setOf_keeps hS st
  clear st
  replace F' : Fr g' L' h₁ (fun z => if z = Str.ofString "code" then some (.str ⟨#[c]⟩ tc) else none) := fr_congr F' (fun z => look1 z rfl)
  (try walk_at "fold")
  k_steps
  refine in_set_old F' hS' ?_
  (try walk_at "fold")
  k_steps
  refine leaveM_ F' N' (fun F N => ?_)
  exact k _ _ F N
end Mine

end
section
open PySem.Spec PyProof.V PySem PySem.W PySem.W.X PyProof.Rows PySem.Calls
namespace Mine
theorem c_map3 {w : World} {p : Program} {loose : List Str} {mean : ExcName → Option Value} {mg mb : Str → Option Value} {A₀ : Around} {base h₀ : Heap} {outer : List Env} {cs : Scope} {L : Addr} {m : Str → Option Value} {s : Shared} {dp un : Nat} {gd : Option (List Code)} {cn : Str} {a : Addr} {ccd : Value} {cl : List (Str × Addr)} {rest : Led} {R : Result → Shared → Prop}
   {c l : Nat} {tc : Nat} {D : List (PyData × PyData)} (hr : PySem.Challenge.rw_to0079_01 = PySem.Challenge.rw_to0079_01)
   (C : Ctx (Khp w.params) p loose mean mg mb A₀ base h₀ outer cs L m s dp 3 un 20) (N : News h₀ L s.heap rest) (hD : IntTab prg w h₀ 118 D) (hc : (lookup (.int c) D = some (.str ⟨#[l]⟩)) ∨ (lookup (.int c) D = none ∧ Txt.lower ⟨#[c]⟩ = ⟨#[l]⟩))
   (k : ∀ t h' tk', Fr h₀ L h' m → News h₀ L h' rest → R (.ok (.ret (.str ⟨#[l]⟩ t))) {s with heap := h', toks := tk'}) :
   codeAny (model PySem.Challenge.pw_to0079_01 w) (ktrTop dp un gd cn cs L a ccd cl outer) (.call (.ref 163) ⟨[.str ⟨#[c]⟩ tc], []⟩) R s := by
  revert hr C
  k_fill
  intro _ C
  refine' enterK (M := []) C N (fun _ _ h => nomatch h) ?k6 ?k7 ?k9 ?kB ?_ ?c5 ?c2 ?c3 ?c4
  case k6 => k_is
  case k7 => k_is
  case k9 => exact BindsTo.of_eq rfl
  case kB => exact locs rfl
  case c5 => decide
  case c2 => exact rfl
  case c3 => exact rfl
  case c4 => exact rfl
  have hd := C.hd
  have hu := C.hu
  have hke := C.hke
  clear C N
  intro g' L' h₁ tk₁ FG' F' N' B' st X' T' fr l1 vk ak
  (try walk_at "red")
  walk_at "fold"
  have h1M : Halt "getMethod ref" := trivial
  have h2M : Halt "call builtin:dict.get" := trivial
  have hD' := TabAt.keep hD st
  clear st
  replace F' : Fr g' L' h₁ (fun z => if z = Str.ofString "code" then some (.str ⟨#[c]⟩ tc) else none) := fr_congr F' (fun z => look1 z rfl)
  rcases hc with hc | ⟨hc, hl⟩
  · (try walk_at "fold")
    k_steps
    refine go_ ?_
    refine dict_meth (by k_asm) (by assumption) ?_
    k_steps
    refine go_ ?_
    refine' dict_get_some ?k1 ?k2 ?k3 ?_
    case k1 => k_asm
    case k2 => assumption
    case k3 => assumption
    intro t'
    k_steps
    all_goals ((try k_unfold); refine leaveM_ (M' := []) (by k_asm) News.nil (fun F N => k _ _ _ F N))
  · (try walk_at "fold")
    k_steps
    refine go_ ?_
    refine dict_meth (by k_asm) (by assumption) ?_
    k_steps
    refine go_ ?_
    refine' dict_get_none ?k1 ?k2 ?k3 ?_
    case k1 => k_asm
    case k2 => assumption
    case k3 => assumption
    k_steps
    refine PySem.SC.lower (by rw [hl]; rfl) ?_
    rw [hl]
    (try walk_at "fold")
    k_steps
    all_goals ((try k_unfold); refine leaveM_ (M' := []) (by k_asm) News.nil (fun F N => k _ _ _ F N))
end Mine

end
section
open PySem.Spec PyProof.V PySem PySem.W PySem.W.X PyProof.Rows PySem.Calls
namespace Mine
theorem c_read {w : World} {p : Program} {loose : List Str} {mean : ExcName → Option Value} {mg mb : Str → Option Value} {A₀ : Around} {base h₀ : Heap} {outer : List Env} {cs : Scope} {L : Addr} {m : Str → Option Value} {s : Shared} {dp un : Nat} {gd : Option (List Code)} {cn : Str} {a : Addr} {ccd : Value} {cl : List (Str × Addr)} {rest : Led} {R : Result → Shared → Prop}
   {k : Mch} {text : Str} {line : Int} {pos : Nat} {tl tp tn : Tok} {pn : Nat} {ln : Nat} {ws : List (List Nat)} {rs : List Nat} {S : Int → Bool} {nS : Nat} {D : List (PyData × PyData)} {fold : Nat → Option Nat} {c1 c2 : Addr} {o1 o2 : Obj}  (hr : PySem.Challenge.rw_to0079_01 = PySem.Challenge.rw_to0079_01)
   (C : Ctx (Khp w.params) p loose mean mg mb A₀ base h₀ outer cs L m s dp 24 un 160) (N : News h₀ L s.heap (k.own w.params line tl [] pn pos tp ++ tabLed c1 c2 o1 o2 ++ rest)) (hap : ∀ p ∈ rest, p.1 ∉ (k.own w.params line tl [] pn pos tp ++ tabLed c1 c2 o1 o2 : Led).map (·.1)) (hk : Mch.Ok k text) (hk1 : k.c1 = c1) (k1 : codeHas o1 (Str.ofString "_law_machine.<locals>._law_read_on")) (hoff : Mch.Off k c1 c2)(hlx : Lxs (text.cps.toList.drop pos) ln ws rs) (hws : ws.length = 6) (hp1 : pos ≤ text.length) (hp2 : text.length ≤ 100) (hl : 0 ≤ line ∧ line + ln ≤ 100) (hS : h₀.SetOf (intKind prg w) 107 S nS) (hD : IntTab prg w h₀ 118 D) (hfo : ∀ wd ∈ ws, ∀ c ∈ wd, FoldsTo S D fold c)
   (kk : ∀ (G : Addr) (vs : List Value) (n pos' : Nat) (tp' tl' : Tok) h' tk', StrsAre vs (ws.map fun wd => ⟨(wd.filterMap fold).toArray⟩) → text.cps.toList.drop pos' = rs → pos' ≤ text.length → Fr h₀ L h' m → News h₀ L h' ([(G, W.listOf vs.toArray n)] ++ (k.own w.params (line + ln) tl' [] pn pos' tp' ++ tabLed c1 c2 o1 o2) ++ rest) → R (.ok (.ret (.ref G))) {s with heap := h', toks := tk'}) :
   codeAny (model PySem.Challenge.pw_to0079_01 w) (ktrTop dp un gd cn cs L a ccd cl outer) (.call (.ref 187) ⟨[.ref k.x, .int 6 tn], []⟩) R s := by
  revert hr C
  k_fill
  intro _ C
  refine' enterK (M := k.own w.params line tl [] pn pos tp ++ tabLed c1 c2 o1 o2) C N hap ?k6 ?k7 ?k9 ?kB ?_ ?c5 ?c2 ?c3 ?c4
  case k6 => k_is
  case k7 => k_is
  case k9 => exact BindsTo.of_eq rfl
  case kB => exact locs rfl
  case c5 => decide
  case c2 => exact rfl
  case c3 => exact rfl
  case c4 => exact rfl
  have hd := C.hd
  have hu := C.hu
  have hke := C.hke
  clear C N
  intro g' L' h₁ tk₁ FG' F' N' B' st X' T' fr l1 vk ak
  (try walk_at "red")
  walk_at "fold"
  have h1M : Halt "CompEnd" := trivial
  have h2M : Halt "call ref" := trivial
  have h3M : Halt "pyIter ref" := trivial
  dsimp only [Mch.own, tabLed, List.cons_append, List.nil_append] at l1
  have hcode : CodeHd g' 181 177 := codeHd_of_K X' (by kernel_rfl!)
  have ord := hk.ord
  have of1 := hoff.lt
  have of2 := hoff.one
  have of3 := hoff.two
  k_lt l1
  have hS' := setOf_keeps hS st
  have hD' : IntTab prg w g' 118 D := TabAt.keep hD st
  clear st
  replace F' : Fr g' L' h₁ (fun z => if z = Str.ofString "n" then some (.int 6 tn) else if z = Str.ofString "machine" then some (.ref k.x) else none) := fr_congr F' (fun z => look1 z (look1 z rfl))
  k_steps
  refine go_ ?_
  rename Fr _ _ _ _ => F9
  rename News _ _ _ _ => N9
  rename_i G' _ l1G _ F0 N0 _ _ _ _ _ hr' _
  clear F0 N0
  have l1A := l1G
  dsimp only [Mch.own, tabLed, List.cons_append, List.nil_append] at l1G
  k_lt l1G
  refine it_range rfl (JR w.params k text c1 c2 o1 o2 line ln pn ws rs fold G') hr' (by decide) (n := 6) (by rfl) F9 N9 ⟨[], _, pos, ln, line, tl, tp, .nil, rfl, hlx, hp1, rfl, Int.le_refl _, rfl, rfl, rfl⟩ ?_ ?_
  · rintro I i t₀ m₁ n₁ h tk oI hi6 rq1 hoI F1 N1
    walk_at "open"
    obtain ⟨vs, n, pos2, ln2, line2, tl2, tp2, hvs, hvl, hlx2, hpp, hln2, hle2, e1, e2, rfl⟩ := rq1
    walk_at "shut"
    clear F9 N9
    walk_at "open"
    obtain ⟨na, nb, r, rfl, hx, hxs⟩ := lxs_drop hlx2 (by lia)
    walk_at "shut"
    have F2 := fr1 (fr1 F1 (a := Str.ofString "machine") ((if_neg (by decide +kernel)).trans e2)) (a := Str.ofString "words") ((if_neg (by decide +kernel)).trans e1)
    clear F1 e1 e2
    (try walk_at "fold")
    (try refine (let m : Str → Option Value := _; have F' : Fr _ _ _ m := ‹Fr _ _ _ _›; ?_))
    k_steps
    refine go_ ?_
    refine wpAny_call ?_
    refine c_tok rfl ⟨B', (by k_asm), X', T', rfl, (room hd (by decide) : dp + 1 + 16 < recursionLimit), (room hu (by decide) : un + 3 + 100 < cLine)⟩ (rest := [(I, oI), (G', W.listOf vs.toArray n)]) (show News g' L' _ (k.own w.params line2 tl2 [] pn pos2 tp2 ++ tabLed c1 c2 o1 o2 ++ [(I, oI), (G', W.listOf vs.toArray n)]) from news_rot2 N1) (fun q hq => ?_) hk hk1 k1 hoff hx hpp hp2 (by lia) (fun pos3 tt tp3 tl3 h3 tk3 hd3 hp3 F3 N3 => ?_)
    · revert q
      exact fcons (nin_map fun p hp => hoI p (.tail _ hp)) (fcons (nin_app (own_above hk (by k_clsL)) (nin_map (l := tabLed c1 c2 o1 o2) (fcons (by k_ne) (fcons (by k_ne) (fcons (by k_ne) fnil))))) fnil)
    refine (let W3 : Led := k.own w.params (line2 + na) tl3 [] pn pos3 tp3 ++ tabLed c1 c2 o1 o2; have N3 : News g' L' _ ((I, oI) :: (G', _) :: W3) := news_blk [_, [_], [_]] [1, 2, 0] N3; ?_)
    have hWG : ∀ p ∈ W3, p.1 ≠ G' := fun p hp => (List.mem_append.mp hp).elim (fun h => Nat.ne_of_lt (Nat.lt_of_le_of_lt (own_rng hk p h).1.2 (by k_clsL))) (fun h => Nat.ne_of_lt (l1A p (List.mem_append_right _ h)))
    (try walk_at "red")
    (try walk_at "fold")
    (try refine (let m : Str → Option Value := _; have F' : Fr _ _ _ m := ‹Fr _ _ _ _›; ?_))
    have hM : Halt "eval ListComp" := trivial
    k_steps
    refine go_ ?_
    refine ListComp_S (F₀ := by k_asm) (by rfl) (by decide) (by rfl) (by decide) (by rfl) ?_ (fun _ => rfl)
    clear hM
    k_steps
    have hwl : ws[i].length ≤ 100 := Nat.le_trans (lx_len hx) (by rw [List.length_drop, Array.length_toList]; exact Nat.le_trans (Nat.sub_le _ _) hp2)
    refine ⟨_, _, _, rfl, rfl, (by k_asm), (by k_asm), (by rw [sizeLine_eq]; show ws[i].toArray.size ≤ _; rw [List.size_toArray]; lia), ?_⟩
    rintro s2 rq1
    walk_at "open"
    obtain ⟨g9, rfl⟩ := rq1
    walk_at "shut"
    refine compT_all (JW _ fold ws[i]) _ ?_ ?_ (Nat.zero_add _) ⟨Has.refl _, .nil⟩
    · rintro j ys nw v I2 oI2 C oC D2 m₂ h5 tk5 E5 hj rq1 rq2 hC hxx F5 N5 off5 ne5
      walk_at "open"
      obtain ⟨c, u, hc, rfl⟩ := rq1
      obtain ⟨hH, hys⟩ := rq2
      walk_at "shut"
      replace off5 := has_off hH off5
      replace N5 := has_news hH N5
      clear hH
      have hc' : ws[i][j]? = some c := by simpa using hc
      have hfc := hfo ws[i] (List.getElem_mem _) c (List.mem_of_getElem? hc')
      k_steps
      refine go_ ?_
      refine wpAny_call ?_
      refine c_inb1 rfl ⟨B', F5, X', T', rfl, (room hd (by decide) : dp + 1 + 3 < recursionLimit), (room hu (by decide) : un + 3 + 20 < cLine)⟩ N5 hS' (fun h6 tk6 F6 N6 => ?_)
      (try walk_at "red")
      rcases hfc with ⟨hs1, hf1⟩ | ⟨hs1, l, hf1, hl1⟩
      · rw [hs1]
        iterate 2 (first | (k_unfold; (try dsimp only)) | walk1)
        rw [if_neg (by decide)]
        k_steps
        refine go_ ?_
        exact LCg.CompEnd.intro F6 N6 _ (fun _ h => h) off5 trivial ⟨Has.refl _, by rw [take_fm_none hc' hf1]; exact hys⟩
      · rw [hs1]
        iterate 2 (first | (k_unfold; (try dsimp only)) | walk1)
        rw [if_pos (by decide)]
        k_steps
        refine go_ ?_
        refine wpAny_call ?_
        refine c_map3 rfl ⟨B', F6, X', T', rfl, (room hd (by decide) : dp + 1 + 3 < recursionLimit), (room hu (by decide) : un + 3 + 20 < cLine)⟩ N6 hD' hl1 (fun t7 h7 tk7 F7 N7 => ?_)
        (try walk_at "red")
        k_steps
        refine go_ ?_
        exact LCg.CompEnd.intro F7 N7 _ (fun _ h => h) off5 trivial ⟨Has.refl _, by rw [take_fm_some hc' hf1, List.map_append]; exact strs_snoc hys⟩
    · rintro ys nw rq1
      walk_at "open"
      obtain ⟨hH, hys⟩ := rq1
      walk_at "shut"
      unfold LCg.FinE
      intro D9 h9 tk9 F9 N9 o9
      replace N9 := has_news1 hH N9
      have hD9 := fun q hq => off1_mem o9 q (hH q hq)
      clear hH o9
      have hGD : @Ne Nat G' D9 := hD9 (G', _) (by k_mem)
      have hGI : @Ne Nat G' I := hoI (G', _) (List.mem_cons_self ..)
      have hvl6 : vs.length ≤ 6 := by lia
      have hwl2 : (((ws[i]).take (ws[i]).length).filterMap fold).length ≤ 1000 := Nat.le_trans (List.length_filterMap_le _ _) (by rw [List.length_take]; lia)
      replace hys : StrsAre ys (((ws[i].take ws[i].length).filterMap fold).map fun l => (⟨#[l]⟩ : Str)) := hys
      rw [List.take_length] at hys hwl2
      have hM : Halt "call builtin:str.join" := trivial
      k_steps
      refine go_ ?_
      refine' join_ones ?zk1 ?zk2 hys ?zk4 ?_
      case zk1 => k_asm
      case zk2 => k_mem
      case zk4 => assumption
      intro t' k'
      clear hM
      k_steps
      rename Fr _ _ _ _ => F10
      rename News _ _ _ _ => N10
      walk_at "open"
      obtain ⟨t9, N10⟩ : ∃ t9, News g' L' _ ((D9, LCg.lst ys) :: (I, oI) :: (G', W.listOf (vs ++ [Value.str ⟨(ws[i].filterMap fold).toArray⟩ t9]).toArray (n + 1)) :: (k.own w.params (line2 + na) tl3 [] pn pos3 tp3 ++ tabLed c1 c2 o1 o2)) := ⟨_, by rw [← List.push_toArray]; exact N10⟩
      walk_at "shut"
      refine stepP_next F10 (news_blk [[_], _] [1] N10) (ne_keys (l := (G', W.listOf vs.toArray n) :: (k.own w.params line2 tl2 [] pn pos2 tp2 ++ tabLed c1 c2 o1 o2)) rfl hoI) ⟨_, _, pos3, nb, line2 + na, tl3, tp3, ?_, ?_, ?_, hp3, ?_, ?_, rfl, rfl, rfl⟩
      · rw [List.take_succ, List.getElem?_eq_getElem (by lia), Option.toList_some, List.map_append]
        exact strs_snoc hvs
      · rw [List.length_append, hvl]; rfl
      · rw [hd3]; exact hxs
      · lia
      · lia
  · rintro h tk m₁ n₁ rq1 F1 N1
    walk_at "open"
    obtain ⟨vs, n, pos2, ln2, line2, tl2, tp2, hvs, hvl, hlx2, hpp, hln2, hle2, e1, e2, rfl⟩ := rq1
    walk_at "shut"
    clear F9 N9
    rw [show ws.drop 6 = [] from List.drop_eq_nil_of_le (by lia)] at hlx2
    rw [show ws.take 6 = ws from List.take_of_length_le (by lia)] at hvs
    have F2 := fr1 F1 (a := Str.ofString "words") e1
    clear F1
    generalize hdr : text.cps.toList.drop pos2 = dr at hlx2
    cases hlx2
    k_steps
    (try k_unfold)
    have eln : line2 = line + ln := by simpa using hln2
    rename News _ _ _ _ => N10
    refine leaveM_ (M' := [(G', W.listOf vs.toArray n)] ++ (k.own w.params (line + ln) tl2 [] pn pos2 tp2 ++ tabLed c1 c2 o1 o2)) (by k_asm) (by rw [← eln]; exact N10) (fun F N => ?_)
    exact kk _ vs _ pos2 _ _ _ _ hvs hdr hpp F N
end Mine

end
section
open PySem.Spec PyProof.V PySem PySem.W PySem.W.X PyProof.Rows PySem.Calls
namespace Mine
theorem c_leafd {w : World} {p : Program} {loose : List Str} {mean : ExcName → Option Value} {mg mb : Str → Option Value} {A₀ : Around} {base h₀ : Heap} {outer : List Env} {cs : Scope} {L : Addr} {m : Str → Option Value} {s : Shared} {dp un : Nat} {gd : Option (List Code)} {cn : Str} {a : Addr} {ccd : Value} {cl : List (Str × Addr)} {rest : Led} {R : Result → Shared → Prop}
   {k : Inn} {vs : List Value} {ds : List Int} {n0 lo : Nat} {hh : Int} {tlo thh : Tok}  (hr : PySem.Challenge.rw_to0079_01 = PySem.Challenge.rw_to0079_01)
   (C : Ctx (Khp w.params) p loose mean mg mb A₀ base h₀ outer cs L m s dp 3 un 20) (N : News h₀ L s.heap (k.ownD w.params vs n0 ++ rest)) (hap : ∀ p ∈ rest, p.1 ∉ (k.ownD w.params vs n0 : Led).map (·.1)) (hk : k.OkD) (hi : IntsAre vs ds) (hlen : ds.length = 3) (hb : ∀ d ∈ ds, d = 0 ∨ d = 1) (hlo : lo < 3) (hR : hh = lo + 1)
   (kk : ∀ t h' tk', Fr h₀ L h' m → News h₀ L h' (k.ownD w.params vs n0 ++ rest) → R (.ok (.ret (.int (val ds lo 1) t))) {s with heap := h', toks := tk'}) :
   codeAny (model PySem.Challenge.pw_to0079_01 w) (ktrTop dp un gd cn cs L a ccd cl outer) (.call (.ref k.f) ⟨[.int lo tlo, .int hh thh], []⟩) R s := by
  revert hr C
  k_fill
  intro _ C
  have hin := @rfl _ (innerIn w.params 50)
  conv at hin => rhs; whnf
  have hroo : dgObj w.params [(Str.ofString "n", k.cN), (Str.ofString "inner", k.cI), (Str.ofString "digits", k.cA)] k.dc k.pm k.c1 k.ctv = fnMade (innerIn w.params 50).1 (Str.ofString "_digits2int.<locals>.inner") (innerIn w.params 50).2.1 (innerIn w.params 50).2.2.1 (innerIn w.params 50).2.2.2 [(Str.ofString "n", k.cN), (Str.ofString "inner", k.cI), (Str.ofString "digits", k.cA)] k.dc k.pm k.c1 k.ctv := rfl
  rw [hin] at hroo
  dsimp only at hroo
  dsimp only [Inn.ownD] at N hap
  rw [hroo] at N hap
  walk_at "open"
  obtain ⟨vs1, q1, d1', d2'⟩ := hk.code
  walk_at "shut"
  refine' enterM (env := envX cn cs L a ccd cl) (cl := _) (M := _) (rest := rest) C.B C.F N ?hap C.T.nolimit ?hA ?hf C.hke ?ho ?hdd ?hcd ?room ?hb ?hloc ?_ ?hcell ?e1 ?e2 ?e3
  case hA => exact rfl
  case hf => exact rfl
  case ho => exact (N (k.f, _) (by k_mem)).1
  case hdd => exact rfl
  case e1 => exact rfl
  case e2 => exact rfl
  case e3 => exact rfl
  case hcd => exact codeRec_news N (by k_mem) d1' d2'
  case room => (have := C.hd; show dp < recursionLimit; lia)
  case hb => exact BindsTo.of_eq rfl
  case hloc => exact locs rfl
  case hcell => decide
  case hap => exact hap
  have hd := C.hd
  have hu := C.hu
  have hke := C.hke
  have X := C.X
  have T := C.T
  clear C N
  intro g' L' h₁ FG' F' N' B' st fr l1
  (try walk_at "red")
  walk_at "fold"
  have X' := X.keeps st
  have T' := T.keeps st
  have hcode : CodeHd g' 49 45 := codeHd_of_K X' (by kernel_rfl!)
  clear X T st
  (try dsimp only [List.cons_append, List.nil_append] at N' l1)
  have dN := hk.dN
  have dI := hk.dI
  have dA := hk.dA
  k_lt l1
  replace F' : Fr g' L' h₁ (fun z => if z = Str.ofString "R" then some (.int hh thh) else if z = Str.ofString "L" then some (.int lo tlo) else none) := fr_congr F' (fun z => look1 z (look1 z rfl))
  have hR' := hR.symm
  have hR2 : ((lo : Int) + 1 == hh) = true := by simp [hR']
  have hR3 : decide ((lo : Int) + 1 = hh) = true := by simp [hR']
  (try walk_at "fold")
  k_steps
  (try k_unfold); refine leaveM_ (M' := k.ownD w.params vs n0) (by k_asm) (by dsimp only [Inn.ownD]; rw [hroo]; k_asm) (fun F N => ?_)
  (try walk_at "red")
  rw [Int.toNat_natCast, ← val_one]
  exact kk _ _ _ F N
end Mine

end
section
open PySem.Spec PyProof.V PySem PySem.W PySem.W.X PyProof.Rows PySem.Calls
namespace Mine
noncomputable def InnerD (j : Nat) : Prop := ∀ {w : World} {p : Program} {loose : List Str} {mean : ExcName → Option Value} {mg mb : Str → Option Value} {A₀ : Around} {base h₀ : Heap} {outer : List Env} {cs : Scope} {L : Addr} {m : Str → Option Value} {s : Shared} {dp un : Nat} {gd : Option (List Code)} {cn : Str} {a : Addr} {ccd : Value} {cl : List (Str × Addr)} {rest : Led} {R : Result → Shared → Prop} {k : Inn} {vs : List Value} {ds : List Int} {n0 lo : Nat} {hh : Int} {tlo thh : Tok} (hr : PySem.Challenge.rw_to0079_01 = PySem.Challenge.rw_to0079_01)(C : Ctx (Khp w.params) p loose mean mg mb A₀ base h₀ outer cs L m s dp (10 + 4 * j) un (40 + 20 * j)) (N : News h₀ L s.heap (k.ownD w.params vs n0 ++ rest)) (hap : ∀ p ∈ rest, p.1 ∉ (k.ownD w.params vs n0 : Led).map (·.1)) (hk : k.OkD) (hi : IntsAre vs ds) (hlen : ds.length = 3) (hb : ∀ d ∈ ds, d = 0 ∨ d = 1)  (hlo : lo + j ≤ 3) (hR : hh = lo + j)
   (kk : ∀ t h' tk', Fr h₀ L h' m → News h₀ L h' (k.ownD w.params vs n0 ++ rest) → R (.ok (.ret (.int (val ds lo j) t))) {s with heap := h', toks := tk'}),
   codeAny (model PySem.Challenge.pw_to0079_01 w) (ktrTop dp un gd cn cs L a ccd cl outer) (.call (.ref k.f) ⟨[.int lo tlo, .int hh thh], []⟩) R s
theorem c_noded {w : World} {p : Program} {loose : List Str} {mean : ExcName → Option Value} {mg mb : Str → Option Value} {A₀ : Around} {base h₀ : Heap} {outer : List Env} {cs : Scope} {L : Addr} {m : Str → Option Value} {s : Shared} {dp un : Nat} {gd : Option (List Code)} {cn : Str} {a : Addr} {ccd : Value} {cl : List (Str × Addr)} {rest : Led} {R : Result → Shared → Prop}
   {j : Nat} (H1 : InnerD 1) (HJ : InnerD j) {k : Inn} {vs : List Value} {ds : List Int} {n0 lo : Nat} {hh : Int} {tlo thh : Tok}  (hr : PySem.Challenge.rw_to0079_01 = PySem.Challenge.rw_to0079_01)
   (C : Ctx (Khp w.params) p loose mean mg mb A₀ base h₀ outer cs L m s dp (10 + 4 * (j + 1)) un (40 + 20 * (j + 1))) (N : News h₀ L s.heap (k.ownD w.params vs n0 ++ rest)) (hap : ∀ p ∈ rest, p.1 ∉ (k.ownD w.params vs n0 : Led).map (·.1)) (hj : j = 1 ∨ j = 2) (hk : k.OkD) (hi : IntsAre vs ds) (hlen : ds.length = 3) (hb : ∀ d ∈ ds, d = 0 ∨ d = 1) (hlo : lo + (j + 1) ≤ 3) (hR : hh = lo + (j + 1 : Nat))
   (kk : ∀ t h' tk', Fr h₀ L h' m → News h₀ L h' (k.ownD w.params vs n0 ++ rest) → R (.ok (.ret (.int (val ds lo (j + 1)) t))) {s with heap := h', toks := tk'}) :
   codeAny (model PySem.Challenge.pw_to0079_01 w) (ktrTop dp un gd cn cs L a ccd cl outer) (.call (.ref k.f) ⟨[.int lo tlo, .int hh thh], []⟩) R s := by
  revert hr C
  k_fill
  intro _ C
  have hin := @rfl _ (innerIn w.params 50)
  conv at hin => rhs; whnf
  have hroo : dgObj w.params [(Str.ofString "n", k.cN), (Str.ofString "inner", k.cI), (Str.ofString "digits", k.cA)] k.dc k.pm k.c1 k.ctv = fnMade (innerIn w.params 50).1 (Str.ofString "_digits2int.<locals>.inner") (innerIn w.params 50).2.1 (innerIn w.params 50).2.2.1 (innerIn w.params 50).2.2.2 [(Str.ofString "n", k.cN), (Str.ofString "inner", k.cI), (Str.ofString "digits", k.cA)] k.dc k.pm k.c1 k.ctv := rfl
  rw [hin] at hroo
  dsimp only at hroo
  dsimp only [Inn.ownD] at N hap
  rw [hroo] at N hap
  walk_at "open"
  obtain ⟨vs1, q1, d1', d2'⟩ := hk.code
  walk_at "shut"
  refine' enterM (env := envX cn cs L a ccd cl) (cl := _) (M := _) (rest := rest) C.B C.F N ?hap C.T.nolimit ?hA ?hf C.hke ?ho ?hdd ?hcd ?room ?hb ?hloc ?_ ?hcell ?e1 ?e2 ?e3
  case hA => exact rfl
  case hf => exact rfl
  case ho => exact (N (k.f, _) (by k_mem)).1
  case hdd => exact rfl
  case e1 => exact rfl
  case e2 => exact rfl
  case e3 => exact rfl
  case hcd => exact codeRec_news N (by k_mem) d1' d2'
  case room => (have := C.hd; show dp < recursionLimit; lia)
  case hb => exact BindsTo.of_eq rfl
  case hloc => exact locs rfl
  case hcell => decide
  case hap => exact hap
  have hd := C.hd
  have hu := C.hu
  have hke := C.hke
  have X := C.X
  have T := C.T
  clear C N
  intro g' L' h₁ FG' F' N' B' st fr l1
  (try walk_at "red")
  walk_at "fold"
  have h1M : Halt "call ref" := trivial
  have X' := X.keeps st
  have T' := T.keeps st
  have hcode : CodeHd g' 49 45 := codeHd_of_K X' (by kernel_rfl!)
  clear X T st
  (try dsimp only [List.cons_append, List.nil_append] at N' l1)
  have dN := hk.dN
  have dI := hk.dI
  have dA := hk.dA
  k_lt l1
  replace F' : Fr g' L' h₁ (fun z => if z = Str.ofString "R" then some (.int hh thh) else if z = Str.ofString "L" then some (.int lo tlo) else none) := fr_congr F' (fun z => look1 z (look1 z rfl))
  have hR' : ¬ ((lo : Int) + 1 = hh) := by lia
  have hR2 : ¬ (((lo : Int) + 1 == hh) = true) := by simpa using hR'
  have hR3 : ¬ (decide ((lo : Int) + 1 = hh) = true) := by simpa using hR'
  have e1 : ((lo : Int) + hh).fdiv (2 ^ Int.toNat 1) = ((lo + 1 : Nat) : Int) := by rw [hR]; show ((lo : Int) + (lo + ((j + 1 : Nat) : Int))).fdiv 2 = _; rw [Int.fdiv_eq_ediv_of_nonneg _ (by decide)]; exact mid2 (lo := (lo : Int)) hj
  have es : Int.toNat ((((lo + 1 : Nat) : Int) - lo) * 1) = 1 := by lia
  have hv := val_bound hb j (lo + 1)
  have hv3 : val ds (lo + 1) j ≤ 3 := by rcases hj with rfl | rfl <;> lia
  have hv0 := hv.1
  clear hv
  (try walk_at "fold")
  have iM : Halt "binaryOp RShift int int" := trivial
  k_steps
  refine go_ ?_
  k_dflt (refine rsh_eq (by lia) (by assumption) ?_)
  clear iM
  k_steps
  refine go_ ?_
  have HJ' := @HJ
  unfold InnerD at HJ'
  refine wpAny_call ?_
  refine HJ' rfl ⟨B', (by k_asm), X', T', rfl, (by show dp + 1 + (10 + 4 * j) < recursionLimit; lia), (by show un + 3 + (40 + 20 * j) < cLine; lia)⟩ (rest := []) (show News g' L' _ (k.ownD w.params vs n0 ++ []) from (by dsimp only [Inn.ownD, List.cons_append, List.nil_append, List.append_nil]; rw [hroo]; k_asm)) (fun _ h => nomatch h) hk hi hlen hb (by lia) (by lia) (fun t2 h2 tk2 F2 N2 => ?_)
  clear HJ'
  dsimp only [Inn.ownD, List.cons_append, List.nil_append, List.append_nil] at N2
  rw [hroo] at N2
  (try walk_at "red")
  (try walk_at "fold")
  k_steps
  refine go_ ?_
  have H1' := @H1
  unfold InnerD at H1'
  refine wpAny_call ?_
  refine H1' rfl ⟨B', (by k_asm), X', T', rfl, (by show dp + 1 + (10 + 4 * 1) < recursionLimit; lia), (by show un + 3 + (40 + 20 * 1) < cLine; lia)⟩ (rest := []) (show News g' L' _ (k.ownD w.params vs n0 ++ []) from (by dsimp only [Inn.ownD, List.cons_append, List.nil_append, List.append_nil]; rw [hroo]; k_asm)) (fun _ h => nomatch h) hk hi hlen hb (by lia) (by lia) (fun t3 h3 tk3 F3 N3 => ?_)
  clear H1'
  dsimp only [Inn.ownD, List.cons_append, List.nil_append, List.append_nil] at N3
  rw [hroo] at N3
  (try walk_at "red")
  (try walk_at "fold")
  k_steps
  (try k_unfold); refine leaveM_ (M' := k.ownD w.params vs n0) (by k_asm) (by dsimp only [Inn.ownD]; rw [hroo]; k_asm) (fun F N => ?_)
  (try walk_at "red")
  rw [es, show val ds (lo + 1) j * 2 ^ 1 + val ds lo 1 = val ds lo (j + 1) from val_node ds lo j]
  exact kk _ _ _ F N
theorem innerD1 : InnerD 1 := by
  unfold InnerD
  intros
  rename_i hr C N hap hk hi hlen hb hlo hR kk
  exact c_leafd hr ⟨C.B, C.F, C.X, C.T, C.hke, by have := C.hd; lia, by have := C.hu; lia⟩ N hap hk hi hlen hb (by lia) (by lia) kk
theorem innerD3 : InnerD 3 := by
  have h2 : InnerD 2 := by
    unfold InnerD
    intros
    rename_i hr C N hap hk hi hlen hb hlo hR kk
    exact c_noded innerD1 innerD1 hr C N hap (.inl rfl) hk hi hlen hb hlo hR kk
  unfold InnerD
  intros
  rename_i hr C N hap hk hi hlen hb hlo hR kk
  exact c_noded innerD1 h2 hr C N hap (.inr rfl) hk hi hlen hb hlo hR kk
end Mine

end
section
open PySem.Spec PyProof.V PySem PySem.W PySem.W.X PyProof.Rows PySem.Calls
namespace Mine
theorem call_innerd {w : World} {p : Program} {loose : List Str} {mean : ExcName → Option Value} {mg mb : Str → Option Value} {A₀ : Around} {base g : Heap} {outer : List Env} {cs : Scope} {L : Addr} {m : Str → Option Value} {s : Shared} {dp un : Nat} {gd : Option (List Code)} {cn : Str} {a : Addr} {ccd : Value} {cl : List (Str × Addr)} {Q E : Value → Shared → Prop}
   {nws : Led} {f c D cN cI cA : Addr} {oc oN oI oA ot : Obj} {nm : Str} {ar : Arguments} {bd : List Stmt} {sc : Scope} {dc pm ctv : Value} {vs : List Value} {ds : List Int} {n : Nat} {lo hh : Int} {tl th tn : Tok}
   (C : Ctx (Khp w.params) p loose mean mg mb A₀ base g outer cs L m s dp 22 un 100) (N : News g L s.heap nws)
   (m1 : (f, fnMade nm (Str.ofString "_digits2int.<locals>.inner") ar bd sc [(Str.ofString "n", cN), (Str.ofString "inner", cI), (Str.ofString "digits", cA)] dc pm c ctv) ∈ nws) (hin : innerIn w.params 50 = (nm, ar, bd, sc))
   (m2 : (c, oc) ∈ nws) (m3 : (D, W.listOf vs.toArray n) ∈ nws) (m4 : (cI, oI) ∈ nws) (m5 : (cA, oA) ∈ nws) (m6 : (cN, oN) ∈ nws) (m7 : (45, ot) ∈ nws)
   (dN : oN.data = .cell (some (.int 1 tn))) (dI : oI.data = .cell (some (.ref f))) (dA : oA.data = .cell (some (.ref D))) (code : codeHas oc (Str.ofString "_digits2int.<locals>.inner"))
   (o45 : @LT.lt Nat _ 45 cN ∧ @LT.lt Nat _ 45 c ∧ @LT.lt Nat _ 45 cI ∧ @LT.lt Nat _ 45 cA ∧ @LT.lt Nat _ 45 f ∧ @Ne Nat D 45)
   (hi : IntsAre vs ds) (hlen : ds.length = 3) (hb : ∀ d ∈ ds, d = 0 ∨ d = 1) (hlo : lo = 0) (hR : hh = 3)
   (kk : ∀ t h' tk', Fr g L h' m → News g L h' [(D, W.listOf vs.toArray n), (45, ot), (c, oc)] → Q (.int (val ds 0 3) t) { s with heap := h', toks := tk' }) :
   wpAny (model prg w) (ktrTop dp un gd cn cs L a ccd cl outer) (call (.ref f) [.int lo tl, .int hh th]) Q E s := by
  have hfo : fnMade nm (Str.ofString "_digits2int.<locals>.inner") ar bd sc [(Str.ofString "n", cN), (Str.ofString "inner", cI), (Str.ofString "digits", cA)] dc pm c ctv = dgObj w.params [(Str.ofString "n", cN), (Str.ofString "inner", cI), (Str.ofString "digits", cA)] dc pm c ctv := by unfold dgObj; rw [hin]
  rw [hfo] at m1
  subst hlo hR
  refine wpAny_call ?_
  have H := @innerD3
  unfold InnerD at H
  refine H (lo := 0) (k := ⟨f, D, cN, cI, cA, c, oN, oI, oA, oc, dc, pm, ctv, tn⟩) (n0 := n) (rest := [(45, ot)]) rfl ⟨C.B, C.F, C.X, C.T, C.hke, by have := C.hd; lia, by have := C.hu; lia⟩ (news_sub N ?_) ?_ ⟨dN, dI, dA, code⟩ hi hlen hb (by lia) (by lia) (fun t h' tk' F' N' => kk t h' tk' F' (news_blk [[_], [_], [_], [_], [_], [_], [_]] [2, 6, 1] N'))
  · exact fcons m1 (fcons m2 (fcons m3 (fcons m4 (fcons m5 (fcons m6 (fcons m7 fnil))))))
  · intro q hq
    rw [List.mem_singleton.mp hq]
    exact nin_map (fcons (by k_ne) (fcons (by k_ne) (fcons (by k_ne) (fcons (by k_ne) (fcons (by k_ne) (fcons (by k_ne) fnil))))))
inductive DD (P : Params) (rest : Led) (L dl : Addr) (lo oA oN : Obj) (m' : Str → Option Value) (n' : Led) : Prop
  | mk (f c : Addr) (oc oI : Obj) (dc pm ctv : Value) (e1 : m' = fun _ => none)
      (e2 : n' = [(f, dgObj P [(Str.ofString "n", L + 1 + 1), (Str.ofString "inner", L + 1 + 1 + 1), (Str.ofString "digits", L + 1)] dc pm c ctv), (L + 1 + 1 + 1, oI), (L + 1 + 1, oN), (L + 1, oA), (dl, lo), (45, tabObj #[rawInt 88, rawInt 4, .ref c]), (c, oc)])
      (hI : oI.data = .cell (some (.ref f))) (hc : codeHas oc (Str.ofString "_digits2int.<locals>.inner")) (h45 : @LT.lt Nat _ 45 c) (h45f : @LT.lt Nat _ 45 f) (hr : ∀ p ∈ rest, @Ne Nat p.1 c) (hd : @Ne Nat dl c) : DD P rest L dl lo oA oN m' n'
theorem c_d2i {w : World} {p : Program} {loose : List Str} {mean : ExcName → Option Value} {mg mb : Str → Option Value} {A₀ : Around} {base h₀ : Heap} {outer : List Env} {cs : Scope} {L : Addr} {m : Str → Option Value} {s : Shared} {dp un : Nat} {gd : Option (List Code)} {cn : Str} {a : Addr} {ccd : Value} {cl : List (Str × Addr)} {rest : Led} {R : Result → Shared → Prop}
   {dl : Addr} {vs : List Value} {ds : List Int} {n0 : Nat} {tn : Tok} {T : Led} (hr : PySem.Challenge.rw_to0079_01 = PySem.Challenge.rw_to0079_01)
   (C : Ctx (Khp w.params) p loose mean mg mb A₀ base h₀ outer cs L m s dp 30 un 200) (hT : T = [(45, tabObj #[])] ∨ ∃ c oc, T = [(45, tabObj #[rawInt 88, rawInt 4, .ref c]), (c, oc)] ∧ codeHas oc (Str.ofString "_digits2int.<locals>.inner") ∧ @LT.lt Nat _ 45 c) (N : News h₀ L s.heap (((dl, W.listOf vs.toArray n0) :: T) ++ rest)) (hap : ∀ p ∈ rest, p.1 ∉ ((dl, W.listOf vs.toArray n0) :: T : Led).map (·.1)) (hdT : ∀ q ∈ T, @Ne Nat q.1 dl) (hi : IntsAre vs ds) (hlen : ds.length = 3) (hb : ∀ d ∈ ds, d = 0 ∨ d = 1)
   (k : ∀ t c oc h' tk', codeHas oc (Str.ofString "_digits2int.<locals>.inner") → @LT.lt Nat _ 45 c → (∀ p ∈ rest, @Ne Nat p.1 c) → @Ne Nat dl c → Fr h₀ L h' m → News h₀ L h' ([(dl, W.listOf vs.toArray n0), (45, tabObj #[rawInt 88, rawInt 4, .ref c]), (c, oc)] ++ rest) → R (.ok (.ret (.int (val ds 0 3) t))) {s with heap := h', toks := tk'}) :
   codeAny (model PySem.Challenge.pw_to0079_01 w) (ktrTop dp un gd cn cs L a ccd cl outer) (.call (.ref 50) ⟨[.ref dl, .int 1 tn], []⟩) R s := by
  revert hr C
  k_fill
  intro _ C
  refine' enterKC (M := (dl, W.listOf vs.toArray n0) :: T) C N hap ?k6 ?k7 ?k9 ?kB ?kD ?_ ?c2 ?c3 ?c4
  case k6 => k_is
  case k7 => k_is
  case k9 => exact BindsTo.of_eq rfl
  case kB => exact rfl
  case kD => decide
  case c2 => exact rfl
  case c3 => exact rfl
  case c4 => exact rfl
  have hd := C.hd
  have hu := C.hu
  have hke := C.hke
  clear C N
  intro g' L' h₁ tk₁ cells FG' F' N' Y B' st X' T' fr l1 vk ak
  (try walk_at "red")
  walk_at "fold"
  have h1M : Halt "call ref" := trivial
  walk_at "open"
  obtain ⟨o1, o2, o3, hE, d1, d2, d3⟩ := CellsAre.three Y
  walk_at "shut"
  subst hE
  clear Y
  dsimp only [List.cons_append, List.nil_append] at N'
  have hdL : @LT.lt Nat _ dl L' := l1 (dl, _) (List.mem_cons_self ..)
  replace l1 : ∀ p ∈ T, @LT.lt Nat _ p.1 L' := fun p hp => l1 p (List.mem_cons_of_mem _ hp)
  have h45L : @LT.lt Nat _ 45 L' := by rcases hT with rfl | ⟨c, oc, rfl, _⟩ <;> exact l1 _ (List.mem_cons_self ..)
  have hdl : @Ne Nat dl 45 := by rcases hT with rfl | ⟨c, oc, rfl, _⟩ <;> exact Ne.symm (hdT _ (List.mem_cons_self ..))
  have hA3 : ∀ p ∈ T, p.1 ≠ L' + 1 + 1 + 1 := fun p hp => Nat.ne_of_lt (Nat.lt_succ_of_lt (Nat.lt_succ_of_lt (Nat.lt_succ_of_lt (l1 p hp))))
  have hAd : ∀ p ∈ (dl, W.listOf vs.toArray n0) :: T, p.1 ≠ L' + 1 + 1 + 1 := fcons (Nat.ne_of_lt (Nat.lt_succ_of_lt (Nat.lt_succ_of_lt (Nat.lt_succ_of_lt hdL)))) hA3
  have hcode : CodeHd g' 49 45 := codeHd_of_K X' (by kernel_rfl!)
  have hin := @rfl _ (innerIn w.params 50)
  conv at hin => rhs; whnf
  have ab : @LE.le Nat _ g'.objs.size L' := F'.above
  replace F' : Fr g' L' h₁ (fun _ => none) := fr_congr F' (fun z => rfl)
  clear st
  have mark : Halt "exec FunctionDef" := trivial
  (try walk_at "fold")
  k_steps
  refine go_ ?_
  clear mark
  have hroo : ∀ dc pm c ctv, dgObj w.params [(Str.ofString "n", L' + 1 + 1), (Str.ofString "inner", L' + 1 + 1 + 1), (Str.ofString "digits", L' + 1)] dc pm c ctv = fnMade (innerIn w.params 50).1 (Str.ofString "_digits2int.<locals>.inner") (innerIn w.params 50).2.1 (innerIn w.params 50).2.2.1 (innerIn w.params 50).2.2.2 [(Str.ofString "n", L' + 1 + 1), (Str.ofString "inner", L' + 1 + 1 + 1), (Str.ofString "digits", L' + 1)] dc pm c ctv := fun _ _ _ _ => rfl
  rw [hin] at hroo
  dsimp only at hroo
  have z1 : ∀ q ∈ rest, @LT.lt Nat _ q.1 g'.objs.size := fun q hq => Heap.lt_size (fr q hq)
  refine cutQ g' L' (DD w.params rest L' dl (W.listOf vs.toArray n0) o3 o2) ?_ ?_
  · rcases hT with rfl | ⟨c, oc, rfl, hcd, h45⟩
    · k_steps
      rename News _ _ _ _ => N3
      rename_i f c oc _ _ ct dc _ _ dd1 dd2 lc lf _ oI _ dI
      rw [show qualnameIn vk (Str.ofString "inner") (Str.ofString "inner") = Str.ofString "_digits2int.<locals>.inner" from rfl, ← hroo] at N3
      refine post_ (by k_asm) (news_blk [[_], [_], [_], [_], [_], [_], [_]] [0, 2, 3, 4, 5, 6, 1] N3) ⟨_, _, _, _, _, _, _, rfl, rfl, dI, ⟨_, _, dd1, dd2⟩, by first | k_clsL | lia, by first | k_clsL | lia, fun p hp => Nat.ne_of_lt (Nat.lt_of_lt_of_le (z1 p hp) (by first | k_clsL | lia)), by first | k_clsL | lia⟩
    · have hrc : ∀ p ∈ rest, @Ne Nat p.1 c := fun p hp e => hap p hp (by rw [e]; exact List.mem_cons_of_mem _ (List.mem_cons_of_mem _ (List.mem_cons_self ..)))
      have hcL : @LT.lt Nat _ c L' := l1 (c, oc) (by k_mem)
      k_steps
      rename News _ _ _ _ => N3
      rename_i f ct dc _ _ lf _ oI _ dI
      rw [show qualnameIn vk (Str.ofString "inner") (Str.ofString "inner") = Str.ofString "_digits2int.<locals>.inner" from rfl, ← hroo] at N3
      refine post_ (by k_asm) N3 ⟨_, _, _, _, _, _, _, rfl, rfl, dI, hcd, h45, by first | k_clsL | lia, hrc, Ne.symm (hdT (c, oc) (by k_mem))⟩
  · clear hA3 hAd hap
    rintro h2 tk2 m2 n2 F2 N2 rq
    walk_at "open"
    obtain ⟨f, c, oc, oI, dc, pm, ctv, rfl, rfl, dI, hcd, h45, h45f, hrc, hdc⟩ := rq
    walk_at "shut"
    rw [hroo] at N2
    clear hroo
    (try walk_at "red")
    (try walk_at "fold")
    k_steps
    refine go_ ?_
    rename Fr _ _ _ _ => F9
    rename News _ _ _ _ => N9
    refine' call_innerd (ds := ds) (tn := tn) ⟨B', F9, X', T', rfl, (room hd (by decide) : dp + 1 + 22 < recursionLimit), (room hu (by decide) : un + 3 + 100 < cLine)⟩ N9 ?m1 ?hin ?m2 ?m3 ?m4 ?m5 ?m6 ?m7 ?dN ?dI ?dA ?code ?o45 ?hi ?hlen ?hb ?hlo ?hR ?kk
    case m1 => k_mem
    case hin => exact hin
    case m2 => k_mem
    case m3 => k_mem
    case m4 => k_mem
    case m5 => k_mem
    case m6 => k_mem
    case m7 => k_mem
    case dN => assumption
    case dI => assumption
    case dA => assumption
    case code => exact hcd
    case o45 => exact ⟨Nat.lt_succ_of_lt (Nat.lt_succ_of_lt h45L), h45, Nat.lt_succ_of_lt (Nat.lt_succ_of_lt (Nat.lt_succ_of_lt h45L)), Nat.lt_succ_of_lt h45L, h45f, hdl⟩
    case hi => exact hi
    case hlen => exact hlen
    case hb => exact hb
    case hlo => rfl
    case hR => rw [hlen]; rfl
    case kk =>
      intro t2 h2 tk2 F2 N2
      (try walk_at "red")
      (try walk_at "fold")
      k_steps
      (try walk_at "red")
      (try k_unfold)
      refine leaveM_ (M' := [(_, _), (45, tabObj #[rawInt 88, rawInt 4, .ref _]), (_, _)]) F2 N2 (fun F N => ?_)
      exact k _ _ _ _ _ hcd h45 hrc hdc F N
end Mine

end
section
open PySem.Spec PyProof.V PySem PySem.W PySem.W.X PyProof.Rows PySem.Calls
namespace Mine
theorem c_push {w : World} {p : Program} {loose : List Str} {mean : ExcName → Option Value} {mg mb : Str → Option Value} {A₀ : Around} {base h₀ : Heap} {outer : List Env} {cs : Scope} {L : Addr} {m : Str → Option Value} {s : Shared} {dp un : Nat} {gd : Option (List Code)} {cn : Str} {a : Addr} {ccd : Value} {cl : List (Str × Addr)} {rest : Led} {R : Result → Shared → Prop}
   {k : Mch} {text : Str} {line pos : Int} {tl tp : Tok} {push : List Value} {pn : Nat} {v : Str} {tv : Tok} (hr : PySem.Challenge.rw_to0079_01 = PySem.Challenge.rw_to0079_01)
   (C : Ctx (Khp w.params) p loose mean mg mb A₀ base h₀ outer cs L m s dp 3 un 20) (N : News h₀ L s.heap (k.own w.params line tl push pn pos tp ++ rest)) (hap : ∀ p ∈ rest, p.1 ∉ (k.own w.params line tl push pn pos tp : Led).map (·.1)) (hk : Mch.Ok k text) (hsz : push.length ≤ 100)
   (kk : ∀ pn' h' tk', Fr h₀ L h' m → News h₀ L h' (k.own w.params line tl (push ++ [.str v tv]) pn' pos tp ++ rest) → R (.ok (.ret .none)) {s with heap := h', toks := tk'}) :
   codeAny (model PySem.Challenge.pw_to0079_01 w) (ktrTop dp un gd cn cs L a ccd cl outer) (.call (.ref 92) ⟨[.ref k.x, .str v tv], []⟩) R s := by
  revert hr C
  k_fill
  intro _ C
  refine' enterK (M := k.own w.params line tl push pn pos tp) C N hap ?k6 ?k7 ?k9 ?kB ?_ ?c5 ?c2 ?c3 ?c4
  case k6 => k_is
  case k7 => k_is
  case k9 => exact BindsTo.of_eq rfl
  case kB => exact locs rfl
  case c5 => decide
  case c2 => exact rfl
  case c3 => exact rfl
  case c4 => exact rfl
  have hd := C.hd
  have hu := C.hu
  have hke := C.hke
  clear C N
  intro g' L' h₁ tk₁ FG' F' N' B' st X' T' fr l1 vk ak
  (try walk_at "red")
  walk_at "fold"
  dsimp only [Mch.own] at N' l1
  have ord := hk.ord
  have oa8 := hk.all.1
  have oa7 := hk.all.2.1
  have oa6 := hk.all.2.2.1
  have oa5 := hk.all.2.2.2.1
  have oa4 := hk.all.2.2.2.2.1
  have oa3 := hk.all.2.2.2.2.2.1
  have oa2 := hk.all.2.2.2.2.2.2.1
  have oa1 := hk.all.2.2.2.2.2.2.2
  k_lt l1
  clear st
  replace F' : Fr g' L' h₁ (fun z => if z = Str.ofString "token" then some (.str v tv) else if z = Str.ofString "self" then some (.ref k.x) else none) := fr_congr F' (fun z => look1 z (look1 z rfl))
  (try walk_at "fold")
  k_steps
  (try k_unfold); refine leaveM_ (M' := k.own w.params line tl (push ++ [.str v tv]) (pn + 1) pos tp) (by k_asm) (by rw [Mch.own, ← List.push_toArray]; k_asm) (fun F N => ?_)
  exact kk _ _ _ F N
end Mine

end
section
open PySem.Spec PyProof.V PySem PySem.W PySem.W.X PyProof.Rows PySem.Calls
namespace Mine
theorem c_pop {w : World} {p : Program} {loose : List Str} {mean : ExcName → Option Value} {mg mb : Str → Option Value} {A₀ : Around} {base h₀ : Heap} {outer : List Env} {cs : Scope} {L : Addr} {m : Str → Option Value} {s : Shared} {dp un : Nat} {gd : Option (List Code)} {cn : Str} {a : Addr} {ccd : Value} {cl : List (Str × Addr)} {rest : Led} {R : Result → Shared → Prop}
   {k : Mch} {text : Str} {line pos : Int} {tl tp : Tok} {push : List Value} {pn : Nat} {v : Value} (hr : PySem.Challenge.rw_to0079_01 = PySem.Challenge.rw_to0079_01)
   (C : Ctx (Khp w.params) p loose mean mg mb A₀ base h₀ outer cs L m s dp 3 un 20) (N : News h₀ L s.heap (k.own w.params line tl (v :: push) pn pos tp ++ rest)) (hap : ∀ p ∈ rest, p.1 ∉ (k.own w.params line tl (v :: push) pn pos tp : Led).map (·.1)) (hk : Mch.Ok k text) (hsz : push.length ≤ 100)
   (kk : ∀ pn' h' tk', Fr h₀ L h' m → News h₀ L h' (k.own w.params line tl push pn' pos tp ++ rest) → R (.ok (.ret v)) {s with heap := h', toks := tk'}) :
   codeAny (model PySem.Challenge.pw_to0079_01 w) (ktrTop dp un gd cn cs L a ccd cl outer) (.call (.ref 85) ⟨[.ref k.x], []⟩) R s := by
  revert hr C
  k_fill
  intro _ C
  refine' enterK (M := k.own w.params line tl (v :: push) pn pos tp) C N hap ?k6 ?k7 ?k9 ?kB ?_ ?c5 ?c2 ?c3 ?c4
  case k6 => k_is
  case k7 => k_is
  case k9 => exact BindsTo.of_eq rfl
  case kB => exact locs rfl
  case c5 => decide
  case c2 => exact rfl
  case c3 => exact rfl
  case c4 => exact rfl
  have hd := C.hd
  have hu := C.hu
  have hke := C.hke
  clear C N
  intro g' L' h₁ tk₁ FG' F' N' B' st X' T' fr l1 vk ak
  (try walk_at "red")
  walk_at "fold"
  dsimp only [Mch.own] at N' l1
  have ord := hk.ord
  have oa8 := hk.all.1
  have oa7 := hk.all.2.1
  have oa6 := hk.all.2.2.1
  have oa5 := hk.all.2.2.2.1
  have oa4 := hk.all.2.2.2.2.1
  have oa3 := hk.all.2.2.2.2.2.1
  have oa2 := hk.all.2.2.2.2.2.2.1
  have oa1 := hk.all.2.2.2.2.2.2.2
  k_lt l1
  clear st
  replace F' : Fr g' L' h₁ (fun z => if z = Str.ofString "self" then some (.ref k.x) else none) := fr_congr F' (fun z => look1 z rfl)
  (try walk_at "fold")
  k_steps
  refine' kl_popAt (its := (v :: push).toArray) (k := 0) (p := []) (q := push) (y := v) ?k1 ?k2 rfl ?kk rfl ?k3 ?kz ?_
  case k1 => k_asm
  case k2 => k_asm
  case kk => rw [List.size_toArray, List.length_cons]; unfold seqIndex?; simp
  case k3 => k_upd
  case kz => (show (v :: push).length ≤ sizeLine); rw [sizeLine_eq, List.length_cons]; lia
  intro h2 F2 N2
  (try k_unfold); refine leaveM_ (M' := k.own w.params line tl push (pn + 1) pos tp) (by k_asm) (by k_asm) (fun F N => ?_)
  exact kk _ _ _ F N
end Mine

end
section
open PySem.Spec PyProof.V PySem PySem.W PySem.W.X PyProof.Rows PySem.Calls
namespace Mine
theorem c_seat {w : World} {p : Program} {loose : List Str} {mean : ExcName → Option Value} {mg mb : Str → Option Value} {A₀ : Around} {base h₀ : Heap} {outer : List Env} {cs : Scope} {L : Addr} {m : Str → Option Value} {s : Shared} {dp un : Nat} {gd : Option (List Code)} {cn : Str} {a : Addr} {ccd : Value} {cl : List (Str × Addr)} {rest : Led} {R : Result → Shared → Prop}
   {k : Mch} {text : Str} {line pos : Int} {tl tp tf tlk : Tok} {pn : Nat} {ps : List Value} {names lk : List Nat}  (hr : PySem.Challenge.rw_to0079_01 = PySem.Challenge.rw_to0079_01)
   (C : Ctx (Khp w.params) p loose mean mg mb A₀ base h₀ outer cs L m s dp 16 un 100) (N : News h₀ L s.heap (k.own w.params line tl ps pn pos tp ++ rest)) (hap : ∀ p ∈ rest, p.1 ∉ (k.own w.params line tl ps pn pos tp : Led).map (·.1)) (hk : Mch.Ok k text) (hps : StrsAre ps (names.map one)) (hn6 : names.length ≤ 6) (hrgb : ∀ c ∈ names, c ∈ RGB) (hlk : lk ∈ LK)
   (kk : ∀ (T RL : Addr) (ps' vs : List Value) (pn' n : Nat) (tt : Tok) h' tk', StrsAre ps' ((names.eraseP (likedB lk)).map one) → IntsAre vs (counts names) → Fr h₀ L h' m → News h₀ L h' ([(T, { cls := .type "tuple", data := .seq #[.str (taken (names.find? (likedB lk))) tt, .ref RL] }), (RL, W.listOf vs.toArray n)] ++ k.own w.params line tl ps' pn' pos tp ++ rest) → R (.ok (.ret (.ref T))) {s with heap := h', toks := tk'}) :
   codeAny (model PySem.Challenge.pw_to0079_01 w) (ktrTop dp un gd cn cs L a ccd cl outer) (.call (.ref 194) ⟨[.ref k.x, .int (names.length : Nat) tf, .str ⟨lk.toArray⟩ tlk], []⟩) R s := by
  revert hr C
  k_fill
  intro _ C
  refine' enterK (M := k.own w.params line tl ps pn pos tp) C N hap ?k6 ?k7 ?k9 ?kB ?_ ?c5 ?c2 ?c3 ?c4
  case k6 => k_is
  case k7 => k_is
  case k9 => exact BindsTo.of_eq rfl
  case kB => exact locs rfl
  case c5 => decide
  case c2 => exact rfl
  case c3 => exact rfl
  case c4 => exact rfl
  have hd := C.hd
  have hu := C.hu
  have hke := C.hke
  clear C N
  intro g' L' h₁ tk₁ FG' F' N' B' st X' T' fr l1 vk ak
  (try walk_at "red")
  walk_at "fold"
  have h1M : Halt "call ref" := trivial
  have h2M : Halt "pyIter ref" := trivial
  have ord := hk.ord
  clear st
  replace F' : Fr g' L' h₁ (fun z => if z = Str.ofString "likes" then some (.str ⟨lk.toArray⟩ tlk) else if z = Str.ofString "free" then some (.int (names.length : Nat) tf) else if z = Str.ofString "line" then some (.ref k.x) else none) := fr_congr F' (fun z => look1 z (look1 z (look1 z rfl)))
  (try walk_at "fold")
  k_steps
  refine go_ ?_
  rename Fr _ _ _ _ => F9
  rename News _ _ _ _ => N9
  rename_i RL _ l1G _ _ _ F0 N0 _ _ _ _ _ hr' _
  clear F0 N0
  refine it_range rfl (JS w.params k line pos tl tp tlk names lk RL) hr' (range_ok (by lia)).1 (n := names.length) (range_ok (by lia)).2 F9 N9 ⟨ps, [_, _, _], pn, _, _, by simpa using hps, .cons _ _ (.cons _ _ (.cons _ _ .nil)), rfl, rfl, rfl, rfl, rfl⟩ ?_ ?_
  · rintro I i t₀ m₁ n₁ h tk oI hi rq1 hoI F1 N1
    walk_at "open"
    obtain ⟨ps2, vs, pn2, n2, tt2, hps2, hvs, e1, e2, e3, e4, rfl⟩ := rq1
    walk_at "shut"
    have hi' : names[i]? = some names[i] := List.getElem?_eq_getElem hi
    have hc : names[i] ∈ RGB := hrgb _ (List.getElem_mem _)
    generalize names[i] = c at hi' hc
    rw [show names.drop i = c :: names.drop (i + 1) by rw [List.drop_eq_getElem?_toList_append, hi']; rfl, List.cons_append, List.map_cons] at hps2
    walk_at "open"
    obtain ⟨t, ps3, rfl, hps3⟩ := strs_cons hps2
    walk_at "shut"
    have hl3 : ps3.length ≤ 100 := by
      rw [strs_len hps3, List.length_map, List.length_append, List.length_drop]
      have := List.length_eraseP_le (p := likedB lk) (l := names.take i)
      rw [List.length_take] at this
      exact hlA (Nat.le_trans hn6 (by decide)) this
    have hapR : ∀ o : Obj, ∀ q ∈ ([(I, oI), (RL, o)] : Led), q.1 ∉ (k.own w.params line tl (Value.str ⟨#[c]⟩ t :: ps3) pn2 pos tp).map (·.1) := fun o => fcons (nin_map fun p hp => hoI p (.tail _ hp)) (fcons (own_above hk (l1G _ (.head _))) fnil)
    have hib := idx_bound c
    have hib0 := hib.1
    have hib2 := hib.2
    unfold counts at hvs
    have hRI : @Ne Nat RL I := hoI (RL, _) (List.mem_cons_self ..)
    have hb1 : Str.length (⟨#[c]⟩ : Str) = 1 := rfl
    have F2 := fr1 (fr1 (fr1 (fr1 F1 (a := Str.ofString "taken") ((if_neg (by decide +kernel)).trans e4)) (a := Str.ofString "rooms") ((if_neg (by decide +kernel)).trans e3)) (a := Str.ofString "likes") ((if_neg (by decide +kernel)).trans e2)) (a := Str.ofString "line") ((if_neg (by decide +kernel)).trans e1)
    clear F1 F9 N9 e1 e2 e3 e4
    have mark : Halt "exec If" := trivial
    (try walk_at "fold")
    k_steps
    refine go_ ?_
    refine wpAny_call ?_
    refine c_pop rfl ⟨B', F2, X', T', rfl, (room hd (by decide) : dp + 1 + 3 < recursionLimit), (room hu (by decide) : un + 3 + 20 < cLine)⟩ (rest := [(I, oI), (RL, W.listOf vs.toArray n2)]) (news_rot2 N1) (hapR _) hk hl3 (fun pn3 h3 tk3 F3 N3 => ?_)
    replace N3 := news_rot2' N3
    have hw3 : ∀ p ∈ k.own w.params line tl ps3 pn3 pos tp, p.1 ≠ RL := fun p hp => Nat.ne_of_lt (Nat.lt_of_le_of_lt (own_rng hk p hp).1.2 (l1G _ (.head _)))
    (try walk_at "red")
    clear N1 F2
    (try walk_at "fold")
    have iM : Halt "call builtin:str.index" := trivial
    k_steps
    refine go_ ?_
    (k_dflt (refine rgb_index (by assumption) ?_); intro _ _)
    clear iM
    k_steps
    refine go_ ?_
    clear mark
    refine wpAny_If ?_
    rename Fr _ _ _ _ => F6
    rcases hfc : (names.take i).find? (likedB lk) with _ | d
    · rw [hfc] at F6
      dsimp only [taken] at F6
      cases hL : likedB lk c
      · have hin := liked_out hlk hc hL
        have hin' := ne_false_of_eq_true hin
        k_steps
        refine go_ ?_
        refine wpAny_call ?_
        refine c_push (push := ps3) (pn := pn3) (line := line) (tl := tl) (pos := pos) (tp := tp) rfl ⟨B', (by k_asm), X', T', rfl, (room hd (by decide) : dp + 1 + 3 < recursionLimit), (room hu (by decide) : un + 3 + 20 < cLine)⟩ (rest := [(I, oI), (RL, W.listOf (vs.set (idx c).toNat (.int _ _)).toArray _)]) (news_rot2 (by k_asm)) (hapR _) hk hl3 (fun pn4 h4 tk4 F5 N5 => ?_)
        (try walk_at "red")
        (try walk_at "fold")
        k_steps
        refine' stepP_next (by k_asm) (news_rot2' N5) (ne_keys (l := (RL, W.listOf vs.toArray n2) :: k.own w.params line tl (Value.str ⟨#[c]⟩ t :: ps3) pn2 pos tp) rfl hoI) ⟨ps3 ++ [Value.str ⟨#[c]⟩ t], _, pn4, _, _, ?j1, ?j2, rfl, rfl, rfl, ?j3, rfl⟩
        case j1 => rw [(seat_back hi' (.inr hL)).1, ← List.append_assoc, List.map_append]; exact strs_snoc hps3
        case j2 => rw [take_next hi', ← counts_snoc hc]; exact ints_set hvs _
        case j3 => rw [(seat_back hi' (.inr hL)).2, hfc]; rfl
      · have hin := liked_in hlk hc hL
        have hin' := ne_true_of_eq_false hin
        k_steps
        refine' stepP_next (by k_asm) (by k_asm : News g' L' _ ((I, oI) :: (RL, W.listOf (vs.set (idx c).toNat (.int _ _)).toArray _) :: k.own w.params line tl ps3 pn3 pos tp)) (ne_keys (l := (RL, W.listOf vs.toArray n2) :: k.own w.params line tl (Value.str ⟨#[c]⟩ t :: ps3) pn2 pos tp) rfl hoI) ⟨ps3, _, pn3, _, _, ?j1, ?j2, rfl, rfl, rfl, ?j3, rfl⟩
        case j1 => rw [← (seat_take hi' hfc hL).1]; exact hps3
        case j2 => rw [take_next hi', ← counts_snoc hc]; exact ints_set hvs _
        case j3 => rw [(seat_take hi' hfc hL).2]; rfl
    · rw [hfc] at F6
      dsimp only [taken] at F6
      have hin := one_ne d
      have hin' := ne_true_of_eq_false hin
      k_steps
      refine go_ ?_
      refine wpAny_call ?_
      refine c_push (push := ps3) (pn := pn3) (line := line) (tl := tl) (pos := pos) (tp := tp) rfl ⟨B', (by k_asm), X', T', rfl, (room hd (by decide) : dp + 1 + 3 < recursionLimit), (room hu (by decide) : un + 3 + 20 < cLine)⟩ (rest := [(I, oI), (RL, W.listOf (vs.set (idx c).toNat (.int _ _)).toArray _)]) (news_rot2 (by k_asm)) (hapR _) hk hl3 (fun pn4 h4 tk4 F5 N5 => ?_)
      (try walk_at "red")
      (try walk_at "fold")
      k_steps
      refine' stepP_next (by k_asm) (news_rot2' N5) (ne_keys (l := (RL, W.listOf vs.toArray n2) :: k.own w.params line tl (Value.str ⟨#[c]⟩ t :: ps3) pn2 pos tp) rfl hoI) ⟨ps3 ++ [Value.str ⟨#[c]⟩ t], _, pn4, _, _, ?j1, ?j2, rfl, rfl, rfl, ?j3, rfl⟩
      case j1 => rw [(seat_back hi' (.inl (by rw [hfc]; exact fun q => nomatch q))).1, ← List.append_assoc, List.map_append]; exact strs_snoc hps3
      case j2 => rw [take_next hi', ← counts_snoc hc]; exact ints_set hvs _
      case j3 => rw [(seat_back hi' (.inl (by rw [hfc]; exact fun q => nomatch q))).2, hfc]; rfl
  · rintro h tk m₁ n₁ rq1 F1 N1
    walk_at "open"
    obtain ⟨ps2, vs, pn2, n2, tt2, hps2, hvs, e1, e2, e3, e4, rfl⟩ := rq1
    walk_at "shut"
    clear F9 N9
    rw [List.drop_eq_nil_of_le (Nat.le_refl _), List.nil_append, List.take_of_length_le (Nat.le_refl _)] at hps2
    rw [List.take_of_length_le (Nat.le_refl _)] at hvs e4
    have F2 := fr1 (fr1 F1 (a := Str.ofString "taken") e4) (a := Str.ofString "rooms") e3
    clear F1 e1 e2 e3 e4
    (try walk_at "fold")
    k_steps
    (try k_unfold)
    refine leaveM_ (M' := [(_, _), (RL, W.listOf vs.toArray n2)] ++ k.own w.params line tl ps2 pn2 pos tp) (by k_asm) (by k_asm) (fun F N => ?_)
    exact kk _ _ ps2 vs _ _ _ _ _ hps2 hvs F N
end Mine

end
section
open PySem.Spec PyProof.V PySem PySem.W PySem.W.X PyProof.Rows PySem.Calls
namespace Mine
theorem stF {M : Model} {A : Around} {e : Env} {x : Str} {u : UInt64} {t : Tok} {Q : Unit → Shared → Prop} {E : Value → Shared → Prop} {s : Shared} (h : ∀ u t, wpAny M A (storeName e x (.float u t)) Q E s) : wpAny M A (storeName e x (.float u t)) Q E s := h u t
theorem c_rgb {w : World} {p : Program} {loose : List Str} {mean : ExcName → Option Value} {mg mb : Str → Option Value} {A₀ : Around} {base h₀ : Heap} {outer : List Env} {cs : Scope} {L : Addr} {m : Str → Option Value} {s : Shared} {dp un : Nat} {gd : Option (List Code)} {cn : Str} {a : Addr} {ccd : Value} {cl : List (Str × Addr)} {rest : Led} {R : Result → Shared → Prop}
   {r g b : Int} {tr tg tb : Nat} (hr : PySem.Challenge.rw_to0079_01 = PySem.Challenge.rw_to0079_01)
   (C : Ctx (Khp w.params) p loose mean mg mb A₀ base h₀ outer cs L m s dp 3 un 20) (N : News h₀ L s.heap rest) (hr0 : 0 ≤ r) (hr1 : r ≤ 2) (hg0 : 0 ≤ g) (hg1 : g ≤ 2) (hb0 : 0 ≤ b) (hb1 : b ≤ 2)
   (k : ∀ t v1 v2 t2 h' tk', Fr h₀ L h' m → News h₀ L h' ((t, { cls := .type "tuple", data := .seq #[v1, v2, .int (max (max r g) b) t2] }) :: rest) → R (.ok (.ret (.ref t))) {s with heap := h', toks := tk'}) :
   codeAny (model PySem.Challenge.pw_to0079_01 w) (ktrTop dp un gd cn cs L a ccd cl outer) (.call (.ref 57) ⟨[.int r tr, .int g tg, .int b tb], []⟩) R s := by
  revert hr C
  k_fill
  intro _ C
  refine' enterK (M := []) C N (fun _ _ h => nomatch h) ?k6 ?k7 ?k9 ?kB ?_ ?c5 ?c2 ?c3 ?c4
  case k6 => k_is
  case k7 => k_is
  case k9 => exact BindsTo.of_eq rfl
  case kB => exact locs rfl
  case c5 => decide
  case c2 => exact rfl
  case c3 => exact rfl
  case c4 => exact rfl
  have hd := C.hd
  have hu := C.hu
  have hke := C.hke
  clear C N
  intro g' L' h₁ tk₁ FG' F' N' B' st X' T' fr l1 vk ak
  (try walk_at "red")
  walk_at "fold"
  have h1M : Halt "call builtin:max" := trivial
  have h2M : Halt "call builtin:min" := trivial
  clear st
  have hM0 : 0 ≤ max (max r g) b := Int.le_trans hb0 (Int.le_max_right _ _)
  have hM2 : max (max r g) b ≤ 2 := Int.max_le.mpr ⟨Int.max_le.mpr ⟨hr1, hg1⟩, hb1⟩
  have hm0 : 0 ≤ min (min r g) b := Int.le_min.mpr ⟨Int.le_min.mpr ⟨hr0, hg0⟩, hb0⟩
  replace F' : Fr g' L' h₁ (fun z => if z = Str.ofString "b" then some (.int b tb) else if z = Str.ofString "g" then some (.int g tg) else if z = Str.ofString "r" then some (.int r tr) else none) := fr_congr F' (fun z => look1 z (look1 z (look1 z rfl)))
  (try walk_at "fold")
  (try refine (let m : Str → Option Value := _; have F' : Fr _ _ _ m := ‹Fr _ _ _ _›; ?_))
  k_steps
  refine go_ ?_
  refine max3' (by k_asm) (by k_asm) ?_
  intro t' h' tk' F' N'
  k_steps
  refine go_ ?_
  refine min3' (by k_asm) (by k_asm) ?_
  intro t' h' tk' F' N'
  have s1M : HaltS "s" := trivial
  have s2M : HaltS "rc" := trivial
  have s3M : HaltS "gc" := trivial
  have s4M : HaltS "bc" := trivial
  have s5M : HaltS "h" := trivial
  k_steps
  · (try k_unfold); refine leaveM_ (by k_asm) (by k_asm) (fun F N => k _ _ _ _ _ _ F N)
  refine go_ ?_
  refine stF fun us ts => ?_
  clear s1M
  (try walk_at "fold")
  (try refine (let m : Str → Option Value := _; have F' : Fr _ _ _ m := ‹Fr _ _ _ _›; ?_))
  k_steps
  refine go_ ?_
  refine stF fun us ts => ?_
  clear s2M
  k_steps
  refine go_ ?_
  refine stF fun us ts => ?_
  clear s3M
  k_steps
  refine go_ ?_
  refine stF fun us ts => ?_
  clear s4M
  have qM : Halt "exec If" := trivial
  k_steps
  refine go_ ?_
  clear qM
  rename Fr _ _ _ _ => F5
  rename News _ _ _ _ => N5
  refine (let mm : Str → Option Value := _; have F5 : Fr g' L' _ mm := F5; ?_)
  refine cutQ g' L' (fun m' n' => n' = [] ∧ ∃ u t, m' = fun y => if y = Str.ofString "h" then some (.float u t) else mm y) ?_ ?_
  · refine wpAny_If ?_
    (try walk_at "fold")
    (try refine (let m : Str → Option Value := _; have F' : Fr _ _ _ m := ‹Fr _ _ _ _›; ?_))
    k_steps
    all_goals (refine go_ ?_; refine stF fun us ts => ?_; clear s5M; k_steps; exact post_ (by k_asm) (by k_asm) ⟨rfl, _, _, rfl⟩)
  clear s5M F5 N5
  rintro h6 tk6 m' n' F6 N6 rq
  walk_at "open"
  obtain ⟨rfl, u, t, rfl⟩ := rq
  walk_at "shut"
  (try walk_at "fold")
  (try refine (let m : Str → Option Value := _; have F' : Fr _ _ _ m := ‹Fr _ _ _ _›; ?_))
  k_steps
  (try k_unfold); refine leaveM_ (by k_asm) (by k_asm) (fun F N => k _ _ _ _ _ _ F N)
end Mine

end
section
open PySem.Spec PyProof.V PySem PySem.W PySem.W.X PyProof.Rows PySem.Calls
namespace Mine
theorem ints_three {ys : List Value} {a b c : Int} (h : IntsAre ys [a, b, c]) : ∃ r0 r1 r2, ys = [.int a r0, .int b r1, .int c r2] := by
  obtain ⟨r0, ys1, rfl, hy1⟩ := ints_cons h
  obtain ⟨r1, ys2, rfl, hy2⟩ := ints_cons hy1
  obtain ⟨r2, ys3, rfl, hy3⟩ := ints_cons hy2
  cases hy3
  exact ⟨r0, r1, r2, rfl⟩
local macro_rules | `(tactic| k_mem) => `(tactic| (with_reducible assumption))
local macro_rules | `(tactic| news_mem) => `(tactic| (k_mem))
theorem c_dinner {w : World} {p : Program} {loose : List Str} {mean : ExcName → Option Value} {mg mb : Str → Option Value} {A₀ : Around} {base h₀ : Heap} {outer : List Env} {cs : Scope} {L : Addr} {m : Str → Option Value} {s : Shared} {dp un : Nat} {gd : Option (List Code)} {cn : Str} {a : Addr} {ccd : Value} {cl : List (Str × Addr)} {rest : Led} {R : Result → Shared → Prop}
   {G c1 c2 : Addr} {q1 q2 : Obj} {gs : List Value} {lks : List (List Nat)} {n0 b : Nat} {whole : Int} {tb tw : Tok}  (hr : PySem.Challenge.rw_to0079_01 = PySem.Challenge.rw_to0079_01)
   (C : Ctx (Khp w.params) p loose mean mg mb A₀ base h₀ outer cs L m s dp 40 un 300) (N : News h₀ L s.heap ([(G, W.listOf gs.toArray n0), (c2, q2), (c1, q1), (177, tabObj #[rawInt 185, rawInt 4, .ref c1, rawInt 189, rawInt 13, .ref c2])] ++ rest)) (hap : ∀ p ∈ rest, p.1 ∉ ([(G, W.listOf gs.toArray n0), (c2, q2), (c1, q1), (177, tabObj #[rawInt 185, rawInt 4, .ref c1, rawInt 189, rawInt 13, .ref c2])] : Led).map (·.1)) (h12 : @LT.lt Nat _ 177 c1 ∧ @LT.lt Nat _ c1 c2) (k1 : codeHas q1 (Str.ofString "_law_machine.<locals>._law_read_on")) (k2 : codeHas q2 (Str.ofString "_law_machine.<locals>.<lambda>")) (hgs : StrsAre gs (lks.map fun l => ⟨l.toArray⟩)) (hlks : ∀ l ∈ lks, l ∈ LK) (hl6 : lks.length = 6) (hb : b = 1 ∨ b = 2) (hw : whole = (b + 1 : Int) ^ b) (hG : @Ne Nat G c2 ∧ @Ne Nat G c1 ∧ @Ne Nat G 177)
   (kk : ∀ (T EL KL FL : Addr) (ve vk : List Value) (ne nk : Nat) (t0 : Tok) h' tk', IntsAre ve (dinner b whole lks).earned → IntsAre vk (dinner b whole lks).kept → (∀ q ∈ rest, @Ne Nat q.1 EL ∧ @Ne Nat q.1 KL ∧ @Ne Nat q.1 FL) → Fr h₀ L h' m → News h₀ L h' ([(T, { cls := .type "tuple", data := .seq #[.int (3 * (b : Int) - ((dinner b whole lks).names.length : Nat)) t0, .ref EL, .ref KL, .ref FL] }), (EL, W.listOf ve.toArray ne), (KL, W.listOf vk.toArray nk), (FL, W.listOf #[] 0)] ++ ([(G, W.listOf gs.toArray n0), (c2, q2), (c1, q1), (177, tabObj #[rawInt 185, rawInt 4, .ref c1, rawInt 189, rawInt 13, .ref c2])] ++ rest)) → R (.ok (.ret (.ref T))) {s with heap := h', toks := tk'}) :
   codeAny (model PySem.Challenge.pw_to0079_01 w) (ktrTop dp un gd cn cs L a ccd cl outer) (.call (.ref 199) ⟨[.ref G, .int (b : Nat) tb, .int whole tw], []⟩) R s := by
  revert hr C
  k_fill
  intro _ C
  refine' enterKC (M := [(G, W.listOf gs.toArray n0), (c2, q2), (c1, q1), (177, tabObj #[rawInt 185, rawInt 4, .ref c1, rawInt 189, rawInt 13, .ref c2])]) C N hap ?k6 ?k7 ?k9 ?kB ?kD ?_ ?c2 ?c3 ?c4
  case k6 => k_is
  case k7 => k_is
  case k9 => exact BindsTo.of_eq rfl
  case kB => exact rfl
  case kD => decide
  case c2 => exact rfl
  case c3 => exact rfl
  case c4 => exact rfl
  have hd := C.hd
  have hu := C.hu
  have hke := C.hke
  clear C N
  intro g' L' h₁ tk₁ cells FG' F' N' Y B' st X' T' fr l1 vk ak
  (try walk_at "red")
  walk_at "fold"
  have h1M : Halt "call ref" := trivial
  have h2M : Halt "pyIter ref" := trivial
  have h3M : Halt "pyIter str" := trivial
  have h4M : Halt "CompSrc" := trivial
  have h5M : Halt "CompEnd" := trivial
  have h6M : Halt "call builtin:str.index" := trivial
  have h7M : Halt "binaryOp Pow int int" := trivial
  have s1M : HaltS "rooms" := trivial
  walk_at "open"
  obtain ⟨o1, o2, hE, d1, d2⟩ := CellsAre.two Y
  walk_at "shut"
  subst hE
  clear Y
  dsimp only [List.cons_append, List.nil_append] at N'
  k_lt l1
  replace F' : Fr g' L' h₁ (fun z => if z = Str.ofString "whole" then some (.int whole tw) else if z = Str.ofString "b" then some (.int (b : Nat) tb) else if z = Str.ofString "guests" then some (.ref G) else none) := fr_congr F' (fun z => rfl)
  clear st
  (try walk_at "fold")
  k_steps
  refine go_ ?_
  refine wpAny_call ?_
  refine c_machine1 rfl ⟨B', F', X', T', rfl, (room hd (by decide) : dp + 1 + 3 < recursionLimit), (room hu (by decide) : un + 3 + 20 < cLine)⟩ (rest := [(L' + 1 + 1, o1), (L' + 1, o2), (G, W.listOf gs.toArray n0)]) ((news_blk [[_], [_], [_], [_], [_], [_]] [3, 4, 5, 0, 1, 2] N')) (fun q hq => ?_) h12 k1 k2 (fun k tl pn tp h2 tk2 hk hk1 hoff hct F2 N2 => ?_)
  · revert q
    exact fcons (nin_map (l := tabLed c1 c2 q1 q2) (fcons (by k_ne) (fcons (by k_ne) (fcons (by k_ne) fnil)))) (fcons (nin_map (l := tabLed c1 c2 q1 q2) (fcons (by k_ne) (fcons (by k_ne) (fcons (by k_ne) fnil)))) (fcons (nin_map (l := tabLed c1 c2 q1 q2) (fcons (Ne.symm hG.1) (fcons (Ne.symm hG.2.1) (fcons (Ne.symm hG.2.2) fnil)))) fnil))
  walk_at "open"
  obtain ⟨TL, hTe⟩ : ∃ TL, TL = ([(c2, q2), (c1, q1), (177, tabObj #[rawInt 185, rawInt 4, .ref c1, rawInt 189, rawInt 13, .ref c2])] : Led) := ⟨_, rfl⟩
  walk_at "shut"
  have hTL : ∀ q ∈ TL, @LT.lt Nat _ q.1 L' := fun q hq => by
    rw [hTe] at hq
    revert q
    (refine fcons ?_ (fcons ?_ (fcons ?_ fnil))) <;> (refine ltN ?_; (try dsimp only); first | k_clsL | lia)
  have N3 : News g' L' h2 (k.own w.params 1 tl [] pn 0 tp ++ ([(L' + 1 + 1, o1), (L' + 1, o2), (G, W.listOf gs.toArray n0)] ++ TL)) := by
    rw [hTe]
    exact (news_blk [[_], [_], [_], [_], [_], [_], [_], [_], [_], [_], [_], [_], [_], [_], [_]] [0, 1, 2, 3, 4, 5, 6, 7, 8, 12, 13, 14, 9, 10, 11] N2)
  have hc2 : @LT.lt Nat _ (L' + 1 + 1) k.ct := hct _ (List.mem_cons_self ..)
  have hGc : @LT.lt Nat _ G k.ct := hct (G, _) (by k_mem)
  have ord := hk.ord
  clear N' F' hct N2 hoff hk1 h12 k1 k2
  (try walk_at "red")
  (try walk_at "fold")
  k_steps
  refine go_ ?_
  rename Fr _ _ _ _ => F9
  rename News _ _ _ _ => N9
  rename IsRange _ _ _ _ _ _ _ _ => hr'
  have hgu : ∀ q ∈ ([(L' + 1 + 1, o1), (L' + 1, o2), (G, W.listOf gs.toArray n0)] ++ TL : Led), @LT.lt Nat _ q.1 k.ct := fun q hq => by
    rcases List.mem_append.mp hq with hq | hq
    · simp only [List.mem_cons, List.not_mem_nil, or_false] at hq
      rcases hq with rfl | rfl | rfl
      · exact hc2
      · exact Nat.lt_of_succ_lt hc2
      · exact hGc
    · exact Nat.lt_trans (hTL q hq) (Nat.lt_of_succ_lt (Nat.lt_of_succ_lt hc2))
  refine (let gr : Led := [(L' + 1 + 1, o1), (L' + 1, o2), (G, W.listOf gs.toArray n0)] ++ TL; have hgu : ∀ q ∈ gr, @LT.lt Nat _ q.1 k.ct := hgu; ?_)
  refine it_range rfl (JP w.params k tl tp rep gr b whole tb tw G) hr' (range_ok (n := b) (by lia)).1 (n := b) (range_ok (by lia)).2 F9 N9 ⟨[], _, .nil, rfl, rfl, rfl, rfl, rfl⟩ ?_ ?_
  · rintro I i t₀ m₁ n₁ h tk oI hi rq1 hoI F1 N1
    walk_at "open"
    obtain ⟨ps, pn2, hps, e1, e2, e3, e4, rfl⟩ := rq1
    walk_at "shut"
    clear F9 N9
    have F2 := fr1 (fr1 (fr1 (fr1 F1 (a := Str.ofString "guests") ((if_neg (by decide +kernel)).trans e4)) (a := Str.ofString "whole") ((if_neg (by decide +kernel)).trans e3)) (a := Str.ofString "b") ((if_neg (by decide +kernel)).trans e2)) (a := Str.ofString "line") ((if_neg (by decide +kernel)).trans e1)
    clear F1 e1 e2 e3 e4
    (try walk_at "fold")
    k_steps
    refine go_ ?_
    refine it_str rfl (JP w.params k tl tp (fun j => rep i ++ RGB.take j) (gr ++ [(I, oI)]) b whole tb tw G) (by k_asm) (news_back (a := [(I, oI)]) N1) ⟨ps, _, by simpa using hps, rfl, rfl, rfl, rfl, rfl⟩ ?_ ?_
    · rintro I2 j v m₂ n₂ h2 tk2 oI2 hj hv rq1 hoI2 F3 N3
      walk_at "open"
      obtain ⟨ps2, pn3, hps2, e1, e2, e3, e4, rfl⟩ := rq1
      walk_at "shut"
      clear N1
      walk_at "open"
      obtain ⟨c, u, hc, rfl⟩ := rgb_sign hv
      walk_at "shut"
      have F4 := fr1 (fr1 (fr1 (fr1 F3 (a := Str.ofString "guests") ((if_neg (by decide +kernel)).trans e4)) (a := Str.ofString "whole") ((if_neg (by decide +kernel)).trans e3)) (a := Str.ofString "b") ((if_neg (by decide +kernel)).trans e2)) (a := Str.ofString "line") ((if_neg (by decide +kernel)).trans e1)
      have F5 := fr1 F4 (a := Str.ofString "name") ((if_neg (by decide +kernel)).trans ((if_neg (by decide +kernel)).trans ((if_neg (by decide +kernel)).trans ((if_neg (by decide +kernel)).trans (if_pos rfl)))))
      (try walk_at "fold")
      k_steps
      refine go_ ?_
      refine wpAny_call ?_
      have hl3 : ps2.length ≤ 100 := by
        rw [strs_len hps2, List.length_map, List.length_append, rep_len]
        have := take_len (l := RGB) (j := j)
        have : RGB.length = 3 := rfl
        lia
      have hap3 : ∀ q ∈ gr ++ [(I, oI)] ++ [(I2, oI2)], q.1 ∉ (k.own w.params 1 tl ps2 pn3 0 tp).map (·.1) := fun q hq => by
        rcases List.mem_append.mp hq with hq | hq
        · rcases List.mem_append.mp hq with hq | hq
          · exact own_below hk (hgu q hq)
          · rw [List.mem_singleton.mp hq]; exact own_off hoI
        · rw [List.mem_singleton.mp hq]; exact own_off hoI2
      refine c_push (push := ps2) (pn := pn3) (line := 1) (tl := tl) (pos := 0) (tp := tp) rfl ⟨B', (by k_asm), X', T', rfl, (room hd (by decide) : dp + 1 + 3 < recursionLimit), (room hu (by decide) : un + 3 + 20 < cLine)⟩ (rest := gr ++ [(I, oI)] ++ [(I2, oI2)]) (news_back (a := [(I2, oI2)]) (b := k.own w.params 1 tl ps2 pn3 0 tp) (l := gr ++ [(I, oI)]) N3) hap3 hk hl3 (fun pn4 h4 tk4 F6 N6 => ?_)
      (try walk_at "red")
      (try walk_at "fold")
      k_steps
      refine stepP_next (by k_asm) (news_fore (a := [(I2, oI2)]) (b := k.own w.params 1 tl (ps2 ++ [Value.str ⟨#[c]⟩ u]) pn4 0 tp) (l := gr ++ [(I, oI)]) N6) (ne_keys (l := k.own w.params 1 tl ps2 pn3 0 tp ++ (gr ++ [(I, oI)])) rfl hoI2) ⟨ps2 ++ [Value.str ⟨#[c]⟩ u], pn4, ?_, rfl, rfl, rfl, rfl, rfl⟩
      show StrsAre _ (List.map one (rep i ++ RGB.take (j + 1)))
      rw [take_next hc, ← List.append_assoc, List.map_append]
      exact strs_snoc hps2
    · rintro h2 tk2 m₂ n₂ rq1 F3 N3
      walk_at "open"
      obtain ⟨ps2, pn3, hps2, e1, e2, e3, e4, rfl⟩ := rq1
      walk_at "shut"
      (try walk_at "fold")
      k_steps
      refine stepP_next F3 (news_fore (a := [(I, oI)]) N3) (ne_keys (l := k.own w.params 1 tl ps pn2 0 tp ++ gr) rfl hoI) ⟨ps2, pn3, ?_, e1, e2, e3, e4, rfl⟩
      rw [rep_succ]
      exact hps2
  · rintro h tk m₁ n₁ rq1 F1 N1
    walk_at "open"
    obtain ⟨ps, pn2, hps, e1, e2, e3, e4, rfl⟩ := rq1
    walk_at "shut"
    clear F9 N9
    have F2 := fr1 (fr1 (fr1 (fr1 F1 (a := Str.ofString "guests") e4) (a := Str.ofString "whole") e3) (a := Str.ofString "b") e2) (a := Str.ofString "line") e1
    clear F1 e1 e2 e3 e4
    (try walk_at "fold")
    have fM : Halt "exec For Name Name cons nil" := trivial
    k_steps
    refine go_ ?_
    clear fM
    k_dflt (refine wpAny_For ?_ fun _ => rfl)
    k_steps
    refine go_ ?_
    rename_i EL _ l1E _ _ KL _ l1K _ FL _ l1F _ F9 N9
    have oE : @LT.lt Nat _ k.pl EL := l1E _ (List.mem_append_left _ (.head _))
    have oK : @LT.lt Nat _ EL KL := l1K.1
    have oF : @LT.lt Nat _ KL FL := l1F.1
    have oLE : @LT.lt Nat _ (L' + 1 + 1) EL := Nat.lt_trans hc2 (Nat.lt_trans (k_ctpl hk) oE)
    have oLK := Nat.lt_trans oLE oK
    have oLF := Nat.lt_trans oLK oF
    clear l1E l1K l1F
    have hox : ∀ (ps : List Value) (pn : Nat), ∀ q ∈ k.own w.params 1 tl ps pn 0 tp ++ TL, q.1 ≠ L' + 1 ∧ q.1 ≠ L' + 1 + 1 ∧ q.1 ≠ EL ∧ q.1 ≠ KL := fun ps pn q hq => by
      rcases List.mem_append.mp hq with hq | hq
      · have hm := List.mem_map_of_mem (f := fun x : Addr × Obj => x.1) hq
        refine ⟨fun e => own_below hk (q := q.1) (by rw [e]; exact Nat.lt_of_succ_lt hc2) hm, fun e => own_below hk (q := q.1) (by rw [e]; exact hc2) hm, fun e => own_above hk (q := q.1) (by rw [e]; exact oE) hm, fun e => own_above hk (q := q.1) (by rw [e]; exact Nat.lt_trans oE oK) hm⟩
      · have hz := hTL q hq
        have hz1 := Nat.lt_trans hz (Nat.lt_trans (Nat.lt_succ_self _) (Nat.lt_succ_self _))
        have hz2 := Nat.lt_trans (Nat.lt_trans hz1 hc2) (Nat.lt_trans (k_ctpl hk) oE)
        exact ⟨Nat.ne_of_lt (Nat.lt_succ_of_lt hz), Nat.ne_of_lt (Nat.lt_succ_of_lt (Nat.lt_succ_of_lt hz)), Nat.ne_of_lt hz2, Nat.ne_of_lt (Nat.lt_trans hz2 oK)⟩
    refine for_lc (hE := by passes_own) (l := G) (vs := gs) (n := n0) (c := L' + 1) (oc := o2) rfl rfl rfl rfl (JG w.params k tl tp b whole tb tw lks gs n0 G (L' + 1 + 1) EL KL FL TL) ?_ F9
      (news := (EL, W.listOf #[.int 0 _, .int 0 _, .int 0 _] 0) :: (KL, W.listOf #[] 0) :: (FL, W.listOf #[] 0) :: (L' + 1 + 1, o1) :: (G, W.listOf gs.toArray n0) :: (k.own w.params 1 tl ps pn2 0 tp ++ TL)) (news_din (l := k.own w.params 1 tl ps pn2 0 tp) (t := TL) N9) d2 ?_ ?_ ?_ ?_
    · rintro i m' n' rq1
      walk_at "open"
      obtain ⟨e0, e1, e2, ps, ve, vk, pn, ne, nk, tf, oc, ov, h1, h2, h3, h4, h5, h6, h7, h8, h9, h10, h11, h12, h13, rfl⟩ := rq1
      walk_at "shut"
      exact List.mem_cons_of_mem _ (List.mem_cons_of_mem _ (List.mem_cons_of_mem _ (List.mem_cons_of_mem _ (List.mem_cons_self ..))))
    · intro q hq
      revert q
      refine fcons ?_ (fcons ?_ (fcons ?_ (fcons ?_ (fcons ?_ (fun q hq => ?_)))))
      · k_ne
      · k_ne
      · k_ne
      · k_ne
      · k_ne
      · exact (hox _ _ q hq).1
    · have e3 : (3 : Int) * (b : Int) = (((dinerAt b whole lks 0).names.length : Nat) : Int) := by
        show _ = ((rep b).length : Int)
        rw [rep_len]; lia
      refine' ⟨0, 0, 0, ps, [.int 0 _, .int 0 _, .int 0 _], [], pn2, 0, 0, ?tf, o1, _, reach_start hb, rfl, hps, .cons _ _ (.cons _ _ (.cons _ _ .nil)), .nil, d1, rfl, rfl, rfl, ?q, rfl, rfl, rfl, rfl⟩
      case q =>
        rw [← e3]
        rfl
    · rintro I i v m₂ n₂ h tk oI o' hv rq1 hoff hIc hcell F1 N1
      walk_at "open"
      obtain ⟨e0, e1, e2, ps, ve, vk, pn, ne, nk, tf, oc, ov, hre, hea, hps, hve, hvk, hoc, x1, x2, x3, x4, x5, x6, x7, rfl⟩ := rq1
      obtain ⟨lk, hlk, tlk, rfl⟩ : ∃ lk, lks[i]? = some lk ∧ ∃ t, v = .str ⟨lk.toArray⟩ t := guest_at hgs hv
      walk_at "shut"
      have hi6 : i < 6 := hl6 ▸ (List.getElem?_eq_some_iff.mp hlk).1
      have hvk6 : vk.length ≤ 6 := by rw [hvk.length]; exact Nat.le_trans (kept_len _ _ _ _) (Nat.le_of_lt hi6)
      have hvk1 : vk.length ≤ 1000 := Nat.le_trans hvk6 (by decide)
      have hl := hlks lk (List.mem_of_getElem? hlk)
      have F2 := fr1 (fr1 (fr1 (fr1 (fr1 (fr1 (fr1 F1 (a := Str.ofString "faults") x7) (a := Str.ofString "kept") x6) (a := Str.ofString "earned") x5) (a := Str.ofString "free") x4) (a := Str.ofString "whole") x3) (a := Str.ofString "b") x2) (a := Str.ofString "line") x1
      clear F1 x1 x2 x3 x4 x5 x6 x7
      (try walk_at "fold")
      k_steps
      refine go_ ?_
      refine wpAny_call ?_
      walk_at "open"
      obtain ⟨hn6, hnr, hre', hmax, hrb, hr1⟩ := reach_ok hb hre hl
      walk_at "shut"
      have hap4 : ∀ q ∈ ([(I, oI), (L' + 1, o'), (EL, W.listOf ve.toArray ne), (KL, W.listOf vk.toArray nk), (FL, W.listOf #[] 0), (L' + 1 + 1, oc), (G, W.listOf gs.toArray n0)] ++ TL : Led), q.1 ∉ (k.own w.params 1 tl ps pn 0 tp).map (·.1) := fun q hq => by
        rcases List.mem_append.mp hq with hq | hq
        rotate_left
        · exact own_below hk (Nat.lt_trans (hTL q hq) (Nat.lt_of_succ_lt (Nat.lt_of_succ_lt hc2)))
        simp only [List.mem_cons, List.not_mem_nil, or_false] at hq
        rcases hq with rfl | rfl | rfl | rfl | rfl | rfl | rfl
        · exact fun q => by
            walk_at "open"
            obtain ⟨x, hx, hxe⟩ := List.mem_map.mp q
            walk_at "shut"
            exact (hoff x (List.mem_cons_of_mem _ (List.mem_cons_of_mem _ (List.mem_cons_of_mem _ (List.mem_cons_of_mem _ (List.mem_cons_of_mem _ (List.mem_append_left _ hx))))))).1 hxe
        · exact own_below hk (Nat.lt_of_succ_lt hc2)
        · exact own_above hk oE
        · exact own_above hk (Nat.lt_trans oE oK)
        · exact own_above hk (Nat.lt_trans (Nat.lt_trans oE oK) oF)
        · exact own_below hk hc2
        · exact own_below hk hGc
      refine c_seat (k := k) (line := 1) (tl := tl) (ps := ps) (pn := pn) (pos := 0) (tp := tp) rfl ⟨B', (by k_asm), X', T', rfl, (room hd (by decide) : dp + 1 + 16 < recursionLimit), (room hu (by decide) : un + 3 + 100 < cLine)⟩ (rest := [(I, oI), (L' + 1, o'), (EL, W.listOf ve.toArray ne), (KL, W.listOf vk.toArray nk), (FL, W.listOf #[] 0), (L' + 1 + 1, oc), (G, W.listOf gs.toArray n0)] ++ TL) (news_seat0 (b := k.own w.params 1 tl ps pn 0 tp) (l := TL) N1) hap4 hk hps hn6 hnr hl (fun T RL ps2 vr pn2 nr tt h2 tk2 hps2 hvr F3 N3 => ?_)
      have N4 := news_seat N3
      clear N3 N1
      refine (let ml : Led := k.own w.params 1 tl ps2 pn2 0 tp ++ TL; have N4 : News g' L' _ (_ :: _ :: _ :: _ :: _ :: _ :: _ :: _ :: _ :: ml) := N4; let tl4 : Led := _; have N4 : News g' L' _ (_ :: tl4) := N4; ?_)
      have mT : ((T, _) : Addr × Obj) ∈ tl4 := List.mem_of_getElem? (i := 0) rfl
      have mR : ((RL, _) : Addr × Obj) ∈ tl4 := List.mem_of_getElem? (i := 1) rfl
      (try walk_at "red")
      (try walk_at "fold")
      k_steps
      refine go_ ?_
      rename News _ _ _ _ => N6
      refine store_cell (c := L' + 1 + 1) (o := oc) (by k_asm) N6 rfl hoc (fun q hq => ?_) (fun h3 o3 F5 N5 hd3 => ?_) rfl rfl
      · have hT : @Ne Nat T (L' + 1 + 1) := ne_cell N6 (a := T) (c := L' + 1 + 1) (by k_mem) (by k_mem) rfl hoc
        have hRL : @Ne Nat RL (L' + 1 + 1) := ne_cell N6 (a := RL) (c := L' + 1 + 1) (by k_mem) (by k_mem) rfl hoc
        have hIR : @Ne Nat (L' + 1 + 1) I := (hoff (L' + 1 + 1, oc) (by k_mem)).1
        revert q
        refine fcons ?_ (fcons ?_ (fcons ?_ (fcons ?_ (fcons ?_ (fcons ?_ (fcons ?_ (fcons ?_ (fun q hq => ?_))))))))
        · exact hT
        · exact hRL
        · exact Ne.symm hIR
        · k_ne
        · k_ne
        · k_ne
        · k_ne
        · k_ne
        · exact (hox _ _ q hq).2.1
      (try walk_at "fold")
      k_steps
      refine go_ ?_
      refine LCg.CompSrc.range (by rfl) (by k_asm) (by k_asm) (by assumption) (by first | decide | rfl) (n := 3) (by first | rfl | decide) (by first | size_fits | exact Nat.le_of_ble_eq_true rfl) ?_
      intro g9
      unfold counts at hvr
      refine comp_all (JL (dinerAt b whole lks i).names lk _) 3 ?_ ?_ rfl ⟨Has.refl _, .nil⟩
      · rintro j ys nw v I2 oI2 C oC D m₃ h5 tk5 E5 hj3 rq1 rq2 hC hx F7 N7 off ne
        walk_at "open"
        obtain ⟨t9, rfl⟩ := rq1
        obtain ⟨hH, hys⟩ := rq2
        walk_at "shut"
        replace off := has_off hH off
        replace N7 := has_news hH N7
        clear hH
        have hj0 : 0 ≤ 0 + (j : Int) * 1 := by lia
        have hj3' : 0 + (j : Int) * 1 < 3 := by lia
        (try walk_at "red")
        (try walk_at "fold")
        k_steps
        · rename List.isEmpty _ = true => hz
          refine go_ ?_
          refine LCg.CompEnd.intro (by k_asm) (by k_asm) _ (fun _ h => h) off trivial ⟨Has.refl _, ?_⟩
          rw [liked_no hl hj3 hz]
          exact hys.append (.cons _ _ .nil)
        · rename List.isEmpty _ = false => hz
          refine go_ ?_
          refine LCg.CompEnd.intro (by k_asm) (by k_asm) _ (fun _ h => h) off trivial ⟨Has.refl _, ?_⟩
          rw [liked_yes hl hj3 hz]
          exact hys.append (.cons _ _ .nil)
      · rintro ys nw rq1
        walk_at "open"
        obtain ⟨hH, hys⟩ := rq1
        walk_at "shut"
        unfold LCg.FinE
        intro D9 h9 tk9 F9 N9 o9
        replace N9 := news_dine (has_news1 hH N9)
        clear hH o9
        have hEn : ∀ q ∈ ((I, oI) :: (L' + 1, o') :: (FL, W.listOf #[] 0) :: (G, W.listOf gs.toArray n0) :: ml : Led), q.1 ≠ EL ∧ q.1 ≠ KL := fun q hq => by
          revert q
          refine fcons ?_ (fcons ?_ (fcons ?_ (fcons ?_ (fun q hq => ?_))))
          · exact ⟨Ne.symm (hoff (EL, W.listOf ve.toArray ne) (by k_mem)).1, Ne.symm (hoff (KL, W.listOf vk.toArray nk) (by k_mem)).1⟩
          · have z := Nat.lt_trans (Nat.lt_of_succ_lt hc2) (Nat.lt_trans (k_ctpl hk) oE)
            exact ⟨Nat.ne_of_lt z, Nat.ne_of_lt (Nat.lt_trans z oK)⟩
          · exact ⟨Nat.ne_of_gt (Nat.lt_trans oK oF), Nat.ne_of_gt oF⟩
          · have z := Nat.lt_trans hGc (Nat.lt_trans (k_ctpl hk) oE)
            exact ⟨Nat.ne_of_lt z, Nat.ne_of_lt (Nat.lt_trans z oK)⟩
          · exact (hox _ _ q hq).2.2
        refine (let rl : Led := (I, oI) :: (L' + 1, o') :: (FL, W.listOf #[] 0) :: (G, W.listOf gs.toArray n0) :: ml; have N9 : News g' L' _ (_ :: _ :: _ :: _ :: _ :: rl) := N9; have hEn : ∀ q ∈ rl, q.1 ≠ EL ∧ q.1 ≠ KL := hEn; ?_)
        have hE1 : ∀ q ∈ rl, q.1 ≠ EL := fun q hq => (hEn q hq).1
        have hE2 : ∀ q ∈ rl, q.1 ≠ KL := fun q hq => (hEn q hq).2
        clear hEn
        rw [List.take_of_length_le (show (likedCounts (dinerAt b whole lks i).names lk).length ≤ 3 from Nat.le_refl _)] at hys
        walk_at "open"
        obtain ⟨xr, xg, xb, hLC, hr0, hg0, hb0⟩ := liked_form (dinerAt b whole lks i).names lk
        walk_at "shut"
        rw [hLC] at hys hmax
        replace hmax : max (max xr xg) xb = (roomOf (dinerAt b whole lks i).names lk : Int) := hmax
        walk_at "open"
        obtain ⟨r0, r1, r2, hz⟩ := ints_three hys
        clear hys
        subst hz
        walk_at "shut"
        have hm2 : (roomOf (dinerAt b whole lks i).names lk : Int) ≤ 2 := by lia
        have hx3 := mx3 hmax hm2
        have hxr := hx3.1
        have hxg := hx3.2.1
        have hxb := hx3.2.2
        clear hm2 hx3
        rcases hfc : (dinerAt b whole lks i).names.find? (likedB lk) with _ | c
        · rw [show roomOf (dinerAt b whole lks i).names lk = 0 by unfold roomOf; rw [hfc]] at hmax
          rw [hfc, show taken none = Str.ofString "" from rfl] at F9
          (try walk_at "red")
          (try walk_at "fold")
          k_steps
          refine go_ ?_
          refine wpAny_call ?_
          refine c_rgb rfl ⟨B', (by k_asm), X', T', rfl, (room hd (by decide) : dp + 1 + 3 < recursionLimit), (room hu (by decide) : un + 3 + 20 < cLine)⟩ (rest := (L' + 1 + 1, o3) :: (EL, W.listOf ve.toArray ne) :: (KL, W.listOf vk.toArray nk) :: rl) (news_tl2 (by k_asm)) hr0 hxr hg0 hxg hb0 hxb (fun T2 v1 v2 t2 h11 tk11 F11 N11 => ?_)
          have hTE : @Ne Nat T2 EL := ne_tup N11 (a := T2) (c := EL) (by k_mem) (by k_mem)
          have hTK : @Ne Nat T2 KL := ne_tup N11 (a := T2) (c := KL) (by k_mem) (by k_mem)
          have hmax' : ¬ ((max (max xr xg) xb != 0) = true) := by rw [hmax]; decide
          (try walk_at "red")
          (try walk_at "fold")
          k_steps
          rename Fr _ _ _ _ => F12
          rename News _ _ _ _ => N12
          walk_at "open"
          obtain ⟨t8, t9, N12⟩ : ∃ t8 t9, News g' L' _ ((T2, { cls := .type "tuple", data := .seq #[v1, v2, .int (max (max xr xg) xb) t2] }) :: (L' + 1 + 1, o3) :: (EL, W.listOf ve.toArray ne) :: (KL, W.listOf (vk ++ [Value.int 0 t9]).toArray (nk + 1)) :: rl) := ⟨0, _, by rw [← List.push_toArray]; exact N12⟩
          walk_at "shut"
          refine ⟨_, _, _, (EL, W.listOf ve.toArray ne) :: (KL, W.listOf (vk ++ [Value.int 0 t9]).toArray (nk + 1)) :: (FL, W.listOf #[] 0) :: (L' + 1 + 1, o3) :: (G, W.listOf gs.toArray n0) :: (k.own w.params 1 tl ps2 pn2 0 tp ++ TL), o', _, rfl, F12, news_turn N12, hcell, keys_all (l := (EL, W.listOf ve.toArray ne) :: (KL, W.listOf vk.toArray nk) :: (FL, W.listOf #[] 0) :: (L' + 1 + 1, oc) :: (G, W.listOf gs.toArray n0) :: (k.own w.params 1 tl ps pn 0 tp ++ TL)) (P := fun a => a ≠ I ∧ a ≠ L' + 1) rfl hoff, ?_⟩
          have hst : dinerAt b whole lks (i + 1) = ⟨(dinerAt b whole lks i).names, (dinerAt b whole lks i).earned, (dinerAt b whole lks i).kept ++ [0]⟩ := by
            rw [dinerAt_succ hlk]; unfold dstep; rw [hfc]
          have hps3 : StrsAre ps2 ((dinerAt b whole lks i).names.map one) := by rw [List.eraseP_of_forall_not (fun a ha => List.find?_eq_none.mp hfc a ha)] at hps2; exact hps2
          exact JG.of hst e0 e1 e2 ps2 ve _ pn2 ne (nk + 1) tf o3 _ hre hea hps3 hve (hvk.append (.cons _ _ .nil)) hd3 rfl rfl rfl rfl rfl rfl rfl rfl
        · have hc : c ∈ RGB := hnr c (List.mem_of_find?_eq_some hfc)
          have hro : roomOf (dinerAt b whole lks i).names lk = (dinerAt b whole lks i).names.count c := by unfold roomOf; rw [hfc]
          rw [hro] at hmax hrb hr1
          rw [hfc, show taken (some c) = (⟨#[c]⟩ : Str) from rfl] at F9
          have hib := idx_bound c
          have hib0 := hib.1
          have hib2 := hib.2
          have hin := one_ne c
          have hin' := ne_true_of_eq_false hin
          have hin2 : ((⟨#[c]⟩ : Str) != Str.ofString "") = true := by rw [bne, hin]; rfl
          (try walk_at "red")
          (try walk_at "fold")
          k_steps
          refine go_ ?_
          (k_dflt (refine rgb_index (by assumption) ?_); intro _ _)
          k_steps
          refine go_ ?_
          rename Fr _ _ _ _ => F10
          rw [counts_at _ hc] at F10
          refine wpAny_call ?_
          refine c_rgb rfl ⟨B', F10, X', T', rfl, (room hd (by decide) : dp + 1 + 3 < recursionLimit), (room hu (by decide) : un + 3 + 20 < cLine)⟩ (rest := (L' + 1 + 1, o3) :: (EL, W.listOf ve.toArray ne) :: (KL, W.listOf vk.toArray nk) :: rl) (news_tl2 (by k_asm)) hr0 hxr hg0 hxg hb0 hxb (fun T2 v1 v2 t2 h11 tk11 F11 N11 => ?_)
          have hTE : @Ne Nat T2 EL := ne_tup N11 (a := T2) (c := EL) (by k_mem) (by k_mem)
          have hTK : @Ne Nat T2 KL := ne_tup N11 (a := T2) (c := KL) (by k_mem) (by k_mem)
          have hroom0 : (0 : Int) ≤ ((dinerAt b whole lks i).names.count c : Int) := Int.natCast_nonneg _
          have hroomb : ((dinerAt b whole lks i).names.count c : Int) ≤ (b : Int) := by lia
          walk_at "open"
          obtain ⟨P1, P2, hP1, hP2, hP10, hP14, hP20, hP24, hPP⟩ := price_parts hb hrb
          walk_at "shut"
          have hbk : b ≤ 1000 := by lia
          have hBP := bits_int hP10 (Int.le_trans hP14 (by decide))
          have hbn := nabs hbk
          have hbn1 := nabs1 hbk
          clear hbk
          have hro6 : ((dinerAt b whole lks i).names.count c : Int) ≤ 1000000 := by lia
          have hre0 : 0 ≤ (b : Int) - ((dinerAt b whole lks i).names.count c : Int) := Int.sub_nonneg_of_le hroomb
          have hre6 : (b : Int) - ((dinerAt b whole lks i).names.count c : Int) ≤ 1000000 := by lia
          have hmax' : ¬ ((max (max xr xg) xb != ((dinerAt b whole lks i).names.count c : Int)) = true) := by rw [hmax, bne_self_eq_false]; decide
          (try walk_at "red")
          (try walk_at "fold")
          k_steps
          refine go_ ?_
          with_reducible refine pow_gen (by assumption) (by assumption) (by assumption) (by assumption) ?_
          k_steps
          refine go_ ?_
          with_reducible refine pow_gen (by assumption) (by assumption) (by assumption) (by assumption) ?_
          k_steps
          refine go_ ?_
          (k_dflt (refine rgb_index (by assumption) ?_); intro _ _)
          k_steps
          rename Fr _ _ _ _ => F12
          rename News _ _ _ _ => N12
          walk_at "open"
          obtain ⟨t8, t9, N12⟩ : ∃ t8 t9, News g' L' _ ((T2, { cls := .type "tuple", data := .seq #[v1, v2, .int (max (max xr xg) xb) t2] }) :: (L' + 1 + 1, o3) :: (EL, W.listOf (ve.set (idx c).toNat (Value.int ([e0, e1, e2].getD (idx c).toNat 0 + P1 * P2) t8)).toArray ne) :: (KL, W.listOf (vk ++ [Value.int (whole - P1 * P2) t9]).toArray (nk + 1)) :: rl) := ⟨_, _, by rw [← List.push_toArray]; exact N12⟩
          walk_at "shut"
          refine ⟨_, _, _, (EL, W.listOf (ve.set (idx c).toNat (Value.int ([e0, e1, e2].getD (idx c).toNat 0 + P1 * P2) t8)).toArray ne) :: (KL, W.listOf (vk ++ [Value.int (whole - P1 * P2) t9]).toArray (nk + 1)) :: (FL, W.listOf #[] 0) :: (L' + 1 + 1, o3) :: (G, W.listOf gs.toArray n0) :: (k.own w.params 1 tl ps2 pn2 0 tp ++ TL), o', _, rfl, F12, news_turn N12, hcell, keys_all (l := (EL, W.listOf ve.toArray ne) :: (KL, W.listOf vk.toArray nk) :: (FL, W.listOf #[] 0) :: (L' + 1 + 1, oc) :: (G, W.listOf gs.toArray n0) :: (k.own w.params 1 tl ps pn 0 tp ++ TL)) (P := fun a => a ≠ I ∧ a ≠ L' + 1) rfl hoff, ?_⟩
          have hst : dinerAt b whole lks (i + 1) = ⟨(dinerAt b whole lks i).names.eraseP (likedB lk), (dinerAt b whole lks i).earned.set (idx c).toNat ((dinerAt b whole lks i).earned.getD (idx c).toNat 0 + price b ((dinerAt b whole lks i).names.count c)), (dinerAt b whole lks i).kept ++ [whole - price b ((dinerAt b whole lks i).names.count c)]⟩ := by
            rw [dinerAt_succ hlk]; unfold dstep; rw [hfc]
          rw [← hPP, hea] at hst
          walk_at "open"
          obtain ⟨f0, f1, f2, hf⟩ := set_three e0 e1 e2 (idx c).toNat ([e0, e1, e2].getD (idx c).toNat 0 + P1 * P2)
          walk_at "shut"
          have hln : ((dinerAt b whole lks i).names.length : Int) - 1 = (((dinerAt b whole lks i).names.eraseP (likedB lk)).length : Nat) := by
            rw [List.length_eraseP_of_mem (List.mem_of_find?_eq_some hfc) (List.find?_some hfc)]
            have := List.length_pos_of_mem (List.mem_of_find?_eq_some hfc)
            lia
          refine' JG.of hst f0 f1 f2 ps2 _ _ pn2 ne (nk + 1) ?tf2 o3 _ hre' hf hps2 ?q21 (hvk.append (.cons _ _ .nil)) hd3 rfl rfl rfl ?q22 rfl rfl rfl rfl
          case q21 => rw [← hf]; exact ints_set hve _
          case q22 => refine (if_pos rfl).trans (tok_int hln ?_); rfl
    · rintro h tk m₂ n₂ rq1 F1 N1
      walk_at "open"
      obtain ⟨e0, e1, e2, ps, ve, vk, pn, ne, nk, tf, oc, ov, hre, hea, hps, hve, hvk, hoc, x1, x2, x3, x4, x5, x6, x7, rfl⟩ := rq1
      walk_at "shut"
      have hgl : gs.length = lks.length := by rw [strs_len hgs, List.length_map]
      rw [hgl, dinerAt_all] at hre hea hps hvk x4
      have F2 := fr1 (fr1 (fr1 (fr1 (fr1 F1 (a := Str.ofString "faults") x7) (a := Str.ofString "kept") x6) (a := Str.ofString "earned") x5) (a := Str.ofString "free") x4) (a := Str.ofString "b") x2
      clear F1 x1 x2 x3 x4 x5 x6 x7
      refine (let ml : Led := k.own w.params 1 tl ps pn 0 tp ++ TL; have N1 : News g' L' _ (_ :: _ :: _ :: _ :: _ :: ml) := N1; ?_)
      (try walk_at "fold")
      k_steps
      rename News _ _ _ _ => N12
      (try dsimp only [ml] at N12)
      (try k_unfold)
      refine leaveM_ (M' := (_, _) :: (EL, W.listOf ve.toArray ne) :: (KL, W.listOf vk.toArray nk) :: (FL, W.listOf #[] 0) :: (G, W.listOf gs.toArray n0) :: TL) (by k_asm) (news_end N12) (fun F N => ?_)
      rw [← hea] at hve
      rw [hTe] at N
      exact kk _ EL KL FL ve vk ne nk _ _ _ hve hvk (fun q hq => ⟨ne_new fr (news_end N12) (.tail _ (.head _)) q hq, ne_new fr (news_end N12) (.tail _ (.tail _ (.head _))) q hq, ne_new fr (news_end N12) (.tail _ (.tail _ (.tail _ (.head _)))) q hq⟩) F N
end Mine

end
section
open PySem.Spec PyProof.V PySem PySem.W PySem.W.X PyProof.Rows PySem.Calls
namespace Mine
theorem c_div {w : World} {p : Program} {loose : List Str} {mean : ExcName → Option Value} {mg mb : Str → Option Value} {A₀ : Around} {base h₀ : Heap} {outer : List Env} {cs : Scope} {L : Addr} {m : Str → Option Value} {s : Shared} {dp un : Nat} {gd : Option (List Code)} {cn : Str} {a : Addr} {ccd : Value} {cl : List (Str × Addr)} {rest : Led} {R : Result → Shared → Prop}
   {x y n : Int} {tx ty tn : Nat} (hr : PySem.Challenge.rw_to0079_01 = PySem.Challenge.rw_to0079_01)
   (C : Ctx (Khp w.params) p loose mean mg mb A₀ base h₀ outer cs L m s dp 3 un 20) (N : News h₀ L s.heap rest) (hx0 : 0 ≤ x) (hx1 : x < 1000000) (hy0 : 0 < y) (hy1 : y < 1000000) (hn0 : 0 ≤ n) (hn1 : n < 100)
   (k : ∀ t t1 t2 h' tk', Fr h₀ L h' m → News h₀ L h' ((t, { cls := .type "tuple", data := .seq #[.int (x.fdiv y) t1, .int (x.fmod y) t2] }) :: rest) → R (.ok (.ret (.ref t))) {s with heap := h', toks := tk'}) :
   codeAny (model PySem.Challenge.pw_to0079_01 w) (ktrTop dp un gd cn cs L a ccd cl outer) (.call (.ref 29) ⟨[.int x tx, .int y ty, .int n tn], []⟩) R s := by
  revert hr C
  k_fill
  intro _ C
  refine' enterK (M := []) C N (fun _ _ h => nomatch h) ?k6 ?k7 ?k9 ?kB ?_ ?c5 ?c2 ?c3 ?c4
  case k6 => k_is
  case k7 => k_is
  case k9 => exact BindsTo.of_eq rfl
  case kB => exact locs rfl
  case c5 => decide
  case c2 => exact rfl
  case c3 => exact rfl
  case c4 => exact rfl
  have hd := C.hd
  have hu := C.hu
  have hke := C.hke
  clear C N
  intro g' L' h₁ tk₁ FG' F' N' B' st X' T' fr l1 vk ak
  (try walk_at "red")
  walk_at "fold"
  clear st
  replace F' : Fr g' L' h₁ (fun z => if z = Str.ofString "n" then some (.int n tn) else if z = Str.ofString "b" then some (.int y ty) else if z = Str.ofString "a" then some (.int x tx) else none) := fr_congr F' (fun z => look1 z (look1 z (look1 z rfl)))
  have hb := intBits_le_64 (k := x) (by lia) (by lia)
  (try walk_at "fold")
  k_steps
  all_goals ((try k_unfold); refine leaveM_ (by k_asm) (by k_asm) (fun F N => k _ _ _ _ _ F N))
end Mine

end
section
open PySem.Spec PyProof.V PySem PySem.W PySem.W.X PyProof.Rows PySem.Calls
namespace Mine
theorem c_leaf {w : World} {p : Program} {loose : List Str} {mean : ExcName → Option Value} {mg mb : Str → Option Value} {A₀ : Around} {base h₀ : Heap} {outer : List Env} {cs : Scope} {L : Addr} {m : Str → Option Value} {s : Shared} {dp un : Nat} {gd : Option (List Code)} {cn : Str} {a : Addr} {ccd : Value} {cl : List (Str × Addr)} {rest : Led} {R : Result → Shared → Prop}
   {k : Inn} {vs : List Value} {ds : List Int} {n0 : Nat} {x lo hh : Int} {tx tlo thh : Tok}  (hr : PySem.Challenge.rw_to0079_01 = PySem.Challenge.rw_to0079_01)
   (C : Ctx (Khp w.params) p loose mean mg mb A₀ base h₀ outer cs L m s dp 3 un 20) (N : News h₀ L s.heap (k.own w.params vs n0 ++ rest)) (hap : ∀ p ∈ rest, p.1 ∉ (k.own w.params vs n0 : Led).map (·.1)) (hk : k.Ok) (hi : IntsAre vs ds) (B : Blank ds lo 1) (hx0 : 0 ≤ x) (hx1 : x < 2) (hlen : ds.length ≤ 3) (hR : hh = lo + 1)
   (kk : ∀ vs' ds' n' h' tk', IntsAre vs' ds' → Wrote ds ds' lo 1 x → Fr h₀ L h' m → News h₀ L h' (k.own w.params vs' n' ++ rest) → R (.ok (.ret .none)) {s with heap := h', toks := tk'}) :
   codeAny (model PySem.Challenge.pw_to0079_01 w) (ktrTop dp un gd cn cs L a ccd cl outer) (.call (.ref k.f) ⟨[.int x tx, .int lo tlo, .int hh thh], []⟩) R s := by
  revert hr C
  k_fill
  intro _ C
  have hin := @rfl _ (innerIn w.params 43)
  conv at hin => rhs; whnf
  have hroo : iObj w.params [(Str.ofString "n", k.cN), (Str.ofString "inner", k.cI), (Str.ofString "a_digits", k.cA)] k.dc k.pm k.c1 k.ctv = fnMade (innerIn w.params 43).1 (Str.ofString "_int2digits.<locals>.inner") (innerIn w.params 43).2.1 (innerIn w.params 43).2.2.1 (innerIn w.params 43).2.2.2 [(Str.ofString "n", k.cN), (Str.ofString "inner", k.cI), (Str.ofString "a_digits", k.cA)] k.dc k.pm k.c1 k.ctv := rfl
  rw [hin] at hroo
  dsimp only at hroo
  dsimp only [Inn.own] at N hap
  rw [hroo] at N hap
  walk_at "open"
  obtain ⟨vs1, q1, d1', d2'⟩ := hk.code
  walk_at "shut"
  have of1 := hk.off
  have ord := hk.ord
  refine' enterM (env := envX cn cs L a ccd cl) (cl := _) (M := _) (rest := rest) C.B C.F N ?hap C.T.nolimit ?hA ?hf C.hke ?ho ?hdd ?hcd ?room ?hb ?hloc ?_ ?hcell ?e1 ?e2 ?e3
  case hA => exact rfl
  case hf => exact rfl
  case ho => exact (N (k.f, _) (by k_mem)).1
  case hdd => exact rfl
  case e1 => exact rfl
  case e2 => exact rfl
  case e3 => exact rfl
  case hcd => exact codeRec_news N (by k_mem) d1' d2'
  case room => (have := C.hd; show dp < recursionLimit; lia)
  case hb => exact BindsTo.of_eq rfl
  case hloc => exact locs rfl
  case hcell => decide
  case hap => exact hap
  have hd := C.hd
  have hu := C.hu
  have hke := C.hke
  have X := C.X
  have T := C.T
  clear C N
  intro g' L' h₁ FG' F' N' B' st fr l1
  (try walk_at "red")
  walk_at "fold"
  have X' := X.keeps st
  have T' := T.keeps st
  have hcode : CodeHd g' 42 38 := codeHd_of_K X' (by kernel_rfl!)
  clear X T st
  (try dsimp only [List.cons_append, List.nil_append] at N' l1)
  have dN := hk.dN
  have dI := hk.dI
  have dA := hk.dA
  k_lt l1
  replace F' : Fr g' L' h₁ (fun z => if z = Str.ofString "R" then some (.int hh thh) else if z = Str.ofString "L" then some (.int lo tlo) else if z = Str.ofString "x" then some (.int x tx) else none) := fr_congr F' (fun z => look1 z (look1 z (look1 z rfl)))
  have hR' := hR.symm
  have hR2 : (lo + 1 == hh) = true := by simp [hR']
  have hR3 : decide (lo + 1 = hh) = true := by simp [hR']
  have B0 := B.lo0
  have B1 := B.hi
  (try walk_at "fold")
  k_steps
  (try k_unfold); refine leaveM_ (M' := k.own w.params _ _) (by k_asm) (by dsimp only [Inn.own]; rw [hroo]; k_asm) (fun F N => ?_)
  exact kk _ _ _ _ _ (ints_set hi _) (wrote_leaf B hx0 hx1) F N
end Mine

end
section
open PySem.Spec PyProof.V PySem PySem.W PySem.W.X PyProof.Rows PySem.Calls
namespace Mine
noncomputable def InnerC (j : Nat) : Prop := ∀ {w : World} {p : Program} {loose : List Str} {mean : ExcName → Option Value} {mg mb : Str → Option Value} {A₀ : Around} {base h₀ : Heap} {outer : List Env} {cs : Scope} {L : Addr} {m : Str → Option Value} {s : Shared} {dp un : Nat} {gd : Option (List Code)} {cn : Str} {a : Addr} {ccd : Value} {cl : List (Str × Addr)} {rest : Led} {R : Result → Shared → Prop} {k : Inn} {vs : List Value} {ds : List Int} {n0 : Nat} {x lo hh : Int} {tx tlo thh : Tok} (hr : PySem.Challenge.rw_to0079_01 = PySem.Challenge.rw_to0079_01)(C : Ctx (Khp w.params) p loose mean mg mb A₀ base h₀ outer cs L m s dp (10 + 4 * j) un (40 + 20 * j)) (N : News h₀ L s.heap (k.own w.params vs n0 ++ rest)) (hap : ∀ p ∈ rest, p.1 ∉ (k.own w.params vs n0 : Led).map (·.1)) (hk : k.Ok) (hi : IntsAre vs ds) (B : Blank ds lo j) (hx0 : 0 ≤ x) (hx1 : x < 2 ^ j) (hlen : ds.length ≤ 3) (hR : hh = lo + j)
   (kk : ∀ vs' ds' n' h' tk', IntsAre vs' ds' → Wrote ds ds' lo j x → Fr h₀ L h' m → News h₀ L h' (k.own w.params vs' n' ++ rest) → R (.ok (.ret .none)) {s with heap := h', toks := tk'}),
   codeAny (model PySem.Challenge.pw_to0079_01 w) (ktrTop dp un gd cn cs L a ccd cl outer) (.call (.ref k.f) ⟨[.int x tx, .int lo tlo, .int hh thh], []⟩) R s
theorem c_node {w : World} {p : Program} {loose : List Str} {mean : ExcName → Option Value} {mg mb : Str → Option Value} {A₀ : Around} {base h₀ : Heap} {outer : List Env} {cs : Scope} {L : Addr} {m : Str → Option Value} {s : Shared} {dp un : Nat} {gd : Option (List Code)} {cn : Str} {a : Addr} {ccd : Value} {cl : List (Str × Addr)} {rest : Led} {R : Result → Shared → Prop}
   {j : Nat} (H1 : InnerC 1) (HJ : InnerC j) {k : Inn} {vs : List Value} {ds : List Int} {n0 : Nat} {x lo hh : Int} {tx tlo thh : Tok}  (hr : PySem.Challenge.rw_to0079_01 = PySem.Challenge.rw_to0079_01)
   (C : Ctx (Khp w.params) p loose mean mg mb A₀ base h₀ outer cs L m s dp (10 + 4 * (j + 1)) un (40 + 20 * (j + 1))) (N : News h₀ L s.heap (k.own w.params vs n0 ++ rest)) (hap : ∀ p ∈ rest, p.1 ∉ (k.own w.params vs n0 : Led).map (·.1)) (hj : j = 1 ∨ j = 2) (hk : k.Ok) (hi : IntsAre vs ds) (B : Blank ds lo (j + 1)) (hx0 : 0 ≤ x) (hx1 : x < 2 ^ (j + 1)) (hlen : ds.length ≤ 3) (hR : hh = lo + (j + 1 : Nat))
   (kk : ∀ vs' ds' n' h' tk', IntsAre vs' ds' → Wrote ds ds' lo (j + 1) x → Fr h₀ L h' m → News h₀ L h' (k.own w.params vs' n' ++ rest) → R (.ok (.ret .none)) {s with heap := h', toks := tk'}) :
   codeAny (model PySem.Challenge.pw_to0079_01 w) (ktrTop dp un gd cn cs L a ccd cl outer) (.call (.ref k.f) ⟨[.int x tx, .int lo tlo, .int hh thh], []⟩) R s := by
  revert hr C
  k_fill
  intro _ C
  have hin := @rfl _ (innerIn w.params 43)
  conv at hin => rhs; whnf
  have hroo : iObj w.params [(Str.ofString "n", k.cN), (Str.ofString "inner", k.cI), (Str.ofString "a_digits", k.cA)] k.dc k.pm k.c1 k.ctv = fnMade (innerIn w.params 43).1 (Str.ofString "_int2digits.<locals>.inner") (innerIn w.params 43).2.1 (innerIn w.params 43).2.2.1 (innerIn w.params 43).2.2.2 [(Str.ofString "n", k.cN), (Str.ofString "inner", k.cI), (Str.ofString "a_digits", k.cA)] k.dc k.pm k.c1 k.ctv := rfl
  rw [hin] at hroo
  dsimp only at hroo
  dsimp only [Inn.own] at N hap
  rw [hroo] at N hap
  walk_at "open"
  obtain ⟨vs1, q1, d1', d2'⟩ := hk.code
  walk_at "shut"
  have of1 := hk.off
  have ord := hk.ord
  refine' enterM (env := envX cn cs L a ccd cl) (cl := _) (M := _) (rest := rest) C.B C.F N ?hap C.T.nolimit ?hA ?hf C.hke ?ho ?hdd ?hcd ?room ?hb ?hloc ?_ ?hcell ?e1 ?e2 ?e3
  case hA => exact rfl
  case hf => exact rfl
  case ho => exact (N (k.f, _) (by k_mem)).1
  case hdd => exact rfl
  case e1 => exact rfl
  case e2 => exact rfl
  case e3 => exact rfl
  case hcd => exact codeRec_news N (by k_mem) d1' d2'
  case room => (have := C.hd; show dp < recursionLimit; lia)
  case hb => exact BindsTo.of_eq rfl
  case hloc => exact locs rfl
  case hcell => decide
  case hap => exact hap
  have hd := C.hd
  have hu := C.hu
  have hke := C.hke
  have X := C.X
  have T := C.T
  clear C N
  intro g' L' h₁ FG' F' N' B' st fr l1
  (try walk_at "red")
  walk_at "fold"
  have h1M : Halt "call ref" := trivial
  have X' := X.keeps st
  have T' := T.keeps st
  have hcode : CodeHd g' 42 38 := codeHd_of_K X' (by kernel_rfl!)
  clear X T st
  (try dsimp only [List.cons_append, List.nil_append] at N' l1)
  have dN := hk.dN
  have dI := hk.dI
  have dA := hk.dA
  k_lt l1
  replace F' : Fr g' L' h₁ (fun z => if z = Str.ofString "R" then some (.int hh thh) else if z = Str.ofString "L" then some (.int lo tlo) else if z = Str.ofString "x" then some (.int x tx) else none) := fr_congr F' (fun z => look1 z (look1 z (look1 z rfl)))
  have hR' : ¬ (lo + 1 = hh) := by lia
  have hR2 : ¬ ((lo + 1 == hh) = true) := by simpa using hR'
  have hR3 : ¬ (decide (lo + 1 = hh) = true) := by simpa using hR'
  have B0 := B.lo0
  have B1 := B.hi
  have hx7 : x < 8 := by rcases hj with rfl | rfl <;> lia
  have e1 : (lo + hh).fdiv (2 ^ Int.toNat 1) = lo + 1 := by rw [hR]; show (lo + (lo + ((j + 1 : Nat) : Int))).fdiv 2 = _; rw [Int.fdiv_eq_ediv_of_nonneg _ (by decide)]; exact mid2 hj
  have es : Int.toNat ((lo + 1 - lo) * 1) = 1 := by lia
  have e2 : x.fdiv (2 ^ Int.toNat ((lo + 1 - lo) * 1)) = x / 2 := by rw [es]; exact Int.fdiv_eq_ediv_of_nonneg _ (by decide)
  have hx2 : 0 ≤ x / 2 ∧ x / 2 ≤ 3 := by lia
  have e3 : Builtin.bitXor x (x / 2 * 2 ^ Int.toNat ((lo + 1 - lo) * 1)) = x % 2 := by
    rw [es]
    exact smallZ (P := fun x => Builtin.bitXor x (x / 2 * 2 ^ 1) = x % 2) 8 hx0 hx7 (by decide +kernel)
  (try walk_at "fold")
  (try refine (let m : Str → Option Value := _; have F' : Fr _ _ _ m := ‹Fr _ _ _ _›; ?_))
  have iM : Halt "binaryOp RShift int int" := trivial
  k_steps
  refine go_ ?_
  k_dflt (refine rsh_eq (by lia) (by assumption) ?_)
  k_steps
  refine go_ ?_
  k_dflt (refine rsh_eq (by lia) (by assumption) ?_)
  clear iM
  k_steps
  refine go_ ?_
  rw [e3]
  have H1' := @H1
  unfold InnerC at H1'
  refine wpAny_call ?_
  refine (H1' rfl ⟨B', (by k_asm), X', T', rfl, (by show dp + 1 + (10 + 4 * 1) < recursionLimit; lia), (by show un + 3 + (40 + 20 * 1) < cLine; lia)⟩ (rest := []) (show News g' L' _ (k.own w.params vs n0 ++ []) from (by dsimp only [Inn.own, List.cons_append, List.nil_append, List.append_nil]; rw [hroo]; k_asm)) (fun _ h => nomatch h) hk hi (blank_left B) (by lia) (by lia) hlen (by lia) (fun vs2 ds2 n2 h2 tk2 hi2 W2 F2 N2 => ?_))
  dsimp only [Inn.own, List.cons_append, List.nil_append, List.append_nil] at N2
  rw [hroo] at N2
  (try walk_at "red")
  (try walk_at "fold")
  (try refine (let m : Str → Option Value := _; have F' : Fr _ _ _ m := ‹Fr _ _ _ _›; ?_))
  k_steps
  refine go_ ?_
  clear H1'
  have HJ' := @HJ
  unfold InnerC at HJ'
  refine wpAny_call ?_
  refine (HJ' rfl ⟨B', (by k_asm), X', T', rfl, (by show dp + 1 + (10 + 4 * j) < recursionLimit; lia), (by show un + 3 + (40 + 20 * j) < cLine; lia)⟩ (rest := []) (show News g' L' _ (k.own w.params vs2 n2 ++ []) from (by dsimp only [Inn.own, List.cons_append, List.nil_append, List.append_nil]; rw [hroo]; k_asm)) (fun _ h => nomatch h) hk hi2 (blank_right B W2) (by lia) (by rcases hj with rfl | rfl <;> lia) (by rw [W2.len]; exact hlen) (by lia) (fun vs3 ds3 n3 h3 tk3 hi3 W3 F3 N3 => ?_))
  dsimp only [Inn.own, List.cons_append, List.nil_append, List.append_nil] at N3
  rw [hroo] at N3
  (try walk_at "red")
  (try walk_at "fold")
  (try refine (let m : Str → Option Value := _; have F' : Fr _ _ _ m := ‹Fr _ _ _ _›; ?_))
  k_steps
  (try k_unfold); refine leaveM_ (M' := k.own w.params vs3 n3) (by k_asm) (by dsimp only [Inn.own]; rw [hroo]; k_asm) (fun F N => ?_)
  exact kk _ _ _ _ _ hi3 (wrote_node W2 W3 (pop_node hx0 hx7)) F N
theorem innerC1 : InnerC 1 := by
  unfold InnerC
  intros
  rename_i hr C N hap hk hi B hx0 hx1 hlen hR kk
  exact c_leaf hr ⟨C.B, C.F, C.X, C.T, C.hke, by have := C.hd; lia, by have := C.hu; lia⟩ N hap hk hi B hx0 (by lia) hlen (by lia) kk
theorem innerC (j : Nat) (h1 : 1 ≤ j) (h3 : j ≤ 3) : InnerC j := by
  have h2 : InnerC 2 := by
    have := @c_node
    unfold InnerC
    intros
    rename_i hr C N hap hk hi B hx0 hx1 hlen hR kk
    exact c_node innerC1 innerC1 hr C N hap (.inl rfl) hk hi B hx0 hx1 hlen hR kk
  have h3' : InnerC 3 := by
    unfold InnerC
    intros
    rename_i hr C N hap hk hi B hx0 hx1 hlen hR kk
    exact c_node innerC1 h2 hr C N hap (.inr rfl) hk hi B hx0 hx1 hlen hR kk
  have : j = 1 ∨ j = 2 ∨ j = 3 := by lia
  rcases this with rfl | rfl | rfl
  · exact @innerC1
  · exact @h2
  · exact @h3'
end Mine

end
section
open PySem.Spec PyProof.V PySem PySem.W PySem.W.X PyProof.Rows PySem.Calls
namespace Mine
theorem call_inner {w : World} {p : Program} {loose : List Str} {mean : ExcName → Option Value} {mg mb : Str → Option Value} {A₀ : Around} {base g : Heap} {outer : List Env} {cs : Scope} {L : Addr} {m : Str → Option Value} {s : Shared} {dp un : Nat} {gd : Option (List Code)} {cn : Str} {a : Addr} {ccd : Value} {cl : List (Str × Addr)} {Q E : Value → Shared → Prop}
   {nws : Led} {f c D cN cI cA : Addr} {oc oN oI oA ot : Obj} {nm : Str} {ar : Arguments} {bd : List Stmt} {sc : Scope} {dc pm ctv : Value} {vs : List Value} {ds : List Int} {n j : Nat} {x lo hh : Int} {tx tl th tn : Tok}
   (C : Ctx (Khp w.params) p loose mean mg mb A₀ base g outer cs L m s dp 22 un 100) (N : News g L s.heap nws)
   (m1 : (f, fnMade nm (Str.ofString "_int2digits.<locals>.inner") ar bd sc [(Str.ofString "n", cN), (Str.ofString "inner", cI), (Str.ofString "a_digits", cA)] dc pm c ctv) ∈ nws) (hin : innerIn w.params 43 = (nm, ar, bd, sc))
   (m2 : (c, oc) ∈ nws) (m3 : (D, W.listOf vs.toArray n) ∈ nws) (m4 : (cI, oI) ∈ nws) (m5 : (cA, oA) ∈ nws) (m6 : (cN, oN) ∈ nws) (m7 : (38, ot) ∈ nws)
   (dN : oN.data = .cell (some (.int 1 tn))) (dI : oI.data = .cell (some (.ref f))) (dA : oA.data = .cell (some (.ref D))) (code : codeHas oc (Str.ofString "_int2digits.<locals>.inner"))
   (ord : @LT.lt Nat _ cN cA ∧ @LT.lt Nat _ cA cI ∧ @LT.lt Nat _ cI D ∧ @LT.lt Nat _ D f) (off : @LT.lt Nat _ c cN ∨ (@LT.lt Nat _ D c ∧ @LT.lt Nat _ c f)) (o38 : @LT.lt Nat _ 38 cN ∧ @LT.lt Nat _ 38 c)
   (hi : IntsAre vs ds) (h1 : 1 ≤ j) (h3 : j ≤ 3) (B : Blank ds lo j) (hx0 : 0 ≤ x) (hx1 : x < 2 ^ j) (hlen : ds.length ≤ 3) (hR : hh = lo + j)
   (kk : ∀ vs' ds' n' h' tk', IntsAre vs' ds' → Wrote ds ds' lo j x → Fr g L h' m → News g L h' [(D, W.listOf vs'.toArray n'), (cA, oA), (38, ot), (c, oc)] → Q .none { s with heap := h', toks := tk' }) :
   wpAny (model prg w) (ktrTop dp un gd cn cs L a ccd cl outer) (call (.ref f) [.int x tx, .int lo tl, .int hh th]) Q E s := by
  have hfo : fnMade nm (Str.ofString "_int2digits.<locals>.inner") ar bd sc [(Str.ofString "n", cN), (Str.ofString "inner", cI), (Str.ofString "a_digits", cA)] dc pm c ctv = iObj w.params [(Str.ofString "n", cN), (Str.ofString "inner", cI), (Str.ofString "a_digits", cA)] dc pm c ctv := by unfold iObj; rw [hin]
  rw [hfo] at m1
  refine wpAny_call ?_
  have H := @innerC j h1 h3
  unfold InnerC at H
  refine H (k := ⟨f, D, cN, cI, cA, c, oN, oI, oA, oc, dc, pm, ctv, tn⟩) (n0 := n) (rest := [(38, ot)]) rfl ⟨C.B, C.F, C.X, C.T, C.hke, by have := C.hd; lia, by have := C.hu; lia⟩ (news_sub N ?_) ?_ ⟨dN, dI, dA, code, ord, off⟩ hi B hx0 hx1 hlen hR (fun vs' ds' n' h' tk' hi' W F' N' => kk vs' ds' n' h' tk' hi' W F' (news_blk [[_], [_], [_], [_], [_], [_], [_]] [2, 4, 6, 1] N'))
  · exact fcons m1 (fcons m2 (fcons m3 (fcons m4 (fcons m5 (fcons m6 (fcons m7 fnil))))))
  · intro q hq
    rw [List.mem_singleton.mp hq]
    exact nin_map (fcons (by k_ne) (fcons (by k_ne) (fcons (by k_ne) (fcons (by k_ne) (fcons (by k_ne) (fcons (by k_ne) fnil))))))
inductive DI (P : Params) (rest : Led) (x0 : Int) (ta : Tok) (L D : Addr) (lo oA o3 : Obj) (m' : Str → Option Value) (n' : Led) : Prop
  | mk (f c : Addr) (oc oI : Obj) (dc pm ctv : Value) (e1 : m' = fun z => if z = Str.ofString "a" then some (.int x0 ta) else none)
      (e2 : n' = [(f, iObj P [(Str.ofString "n", L + 1), (Str.ofString "inner", L + 1 + 1 + 1), (Str.ofString "a_digits", L + 1 + 1)] dc pm c ctv), (D, lo), (L + 1 + 1 + 1, oI), (L + 1 + 1, oA), (L + 1, o3), (38, tabObj #[rawInt 73, rawInt 4, .ref c]), (c, oc)])
      (hI : oI.data = .cell (some (.ref f))) (hc : codeHas oc (Str.ofString "_int2digits.<locals>.inner")) (off : @LT.lt Nat _ c (L + 1) ∨ (@LT.lt Nat _ D c ∧ @LT.lt Nat _ c f)) (hDf : @LT.lt Nat _ D f) (h38 : @LT.lt Nat _ 38 c) (hr : ∀ p ∈ rest, @Ne Nat p.1 c) : DI P rest x0 ta L D lo oA o3 m' n'
theorem c_i2d {w : World} {p : Program} {loose : List Str} {mean : ExcName → Option Value} {mg mb : Str → Option Value} {A₀ : Around} {base h₀ : Heap} {outer : List Env} {cs : Scope} {L : Addr} {m : Str → Option Value} {s : Shared} {dp un : Nat} {gd : Option (List Code)} {cn : Str} {a : Addr} {ccd : Value} {cl : List (Str × Addr)} {rest : Led} {R : Result → Shared → Prop}
   {x0 : Int} {k0 : Nat} {ta tn : Tok} {T : Led} (hr : PySem.Challenge.rw_to0079_01 = PySem.Challenge.rw_to0079_01)
   (C : Ctx (Khp w.params) p loose mean mg mb A₀ base h₀ outer cs L m s dp 30 un 200) (hT : T = [(38, tabObj #[])] ∨ ∃ c oc, T = [(38, tabObj #[rawInt 73, rawInt 4, .ref c]), (c, oc)] ∧ codeHas oc (Str.ofString "_int2digits.<locals>.inner") ∧ @LT.lt Nat _ 38 c) (N : News h₀ L s.heap (T ++ rest)) (hap : ∀ p ∈ rest, p.1 ∉ T.map (·.1)) (ha0 : 0 ≤ x0) (ha1 : x0 < 8) (hfd : (((Builtin.Int.intBits x0 : Nat) : Int) + 1 - 1).fdiv 1 = (k0 : Int)) (hk0 : x0 = 0 ∨ 1 ≤ k0) (hk3 : k0 ≤ 3) (hx2 : x0 < 2 ^ k0)
   (k : ∀ t c oc vs' ds' n' h' tk', IntsAre vs' ds' → ds'.sum = pop x0 → codeHas oc (Str.ofString "_int2digits.<locals>.inner") → @LT.lt Nat _ 38 c → (∀ p ∈ rest, @Ne Nat p.1 c) → Fr h₀ L h' m → News h₀ L h' ([(t, W.listOf vs'.toArray n'), (38, tabObj #[rawInt 73, rawInt 4, .ref c]), (c, oc)] ++ rest) → R (.ok (.ret (.ref t))) {s with heap := h', toks := tk'}) :
   codeAny (model PySem.Challenge.pw_to0079_01 w) (ktrTop dp un gd cn cs L a ccd cl outer) (.call (.ref 43) ⟨[.int x0 ta, .int 1 tn], []⟩) R s := by
  revert hr C
  k_fill
  intro _ C
  refine' enterKC (M := T) C N hap ?k6 ?k7 ?k9 ?kB ?kD ?_ ?c2 ?c3 ?c4
  case k6 => k_is
  case k7 => k_is
  case k9 => exact BindsTo.of_eq rfl
  case kB => exact rfl
  case kD => decide
  case c2 => exact rfl
  case c3 => exact rfl
  case c4 => exact rfl
  have hd := C.hd
  have hu := C.hu
  have hke := C.hke
  clear C N
  intro g' L' h₁ tk₁ cells FG' F' N' Y B' st X' T' fr l1 vk ak
  (try walk_at "red")
  walk_at "fold"
  have h1M : Halt "call ref" := trivial
  walk_at "open"
  obtain ⟨o1, o2, o3, hE, d1, d2, d3⟩ := CellsAre.three Y
  walk_at "shut"
  subst hE
  clear Y
  dsimp only [List.cons_append, List.nil_append] at N'
  have hA1 : ∀ p ∈ T, p.1 ≠ L' + 1 := fun p hp => Nat.ne_of_lt (Nat.lt_succ_of_lt (l1 p hp))
  have hA2 : ∀ p ∈ T, p.1 ≠ L' + 1 + 1 := fun p hp => Nat.ne_of_lt (Nat.lt_succ_of_lt (Nat.lt_succ_of_lt (l1 p hp)))
  have hA3 : ∀ p ∈ T, p.1 ≠ L' + 1 + 1 + 1 := fun p hp => Nat.ne_of_lt (Nat.lt_succ_of_lt (Nat.lt_succ_of_lt (Nat.lt_succ_of_lt (l1 p hp))))
  have hcode : CodeHd g' 42 38 := codeHd_of_K X' (by kernel_rfl!)
  have hin := @rfl _ (innerIn w.params 43)
  conv at hin => rhs; whnf
  replace F' : Fr g' L' h₁ (fun z => if z = Str.ofString "a" then some (.int x0 ta) else none) := fr_congr F' (fun z => rfl)
  have ab : @LE.le Nat _ g'.objs.size L' := F'.above
  have em : ((((Builtin.Int.intBits x0 : Nat) : Int) + 1 - 1).fdiv 1).toNat = k0 := by rw [hfd]; exact Int.toNat_natCast k0
  clear st
  have mark : Halt "exec FunctionDef" := trivial
  (try walk_at "fold")
  (try refine (let m : Str → Option Value := _; have F' : Fr _ _ _ m := ‹Fr _ _ _ _›; ?_))
  k_steps
  refine go_ ?_
  clear mark
  rename Fr _ _ _ _ => F9
  rename News _ _ _ _ => N9
  rename_i l0 _ ll0 D _ i1 n1 s1 e1 e2 e3 lD _ oA dA
  have N2 := news_blk [[_], [_], [_], [_], [_], _] [0, 2, 3, 4, 5] N9
  dsimp only [jn, bsel, bget, List.cons_append, List.nil_append] at N2
  clear N9 e2 e3
  rw [em] at i1 s1 e1 N2
  rw [rep_eq, List.length_replicate] at e1
  subst e1
  generalize (List.replicate k0 [Value.int 0 tk₁]).flatten = vs at i1 s1 N2
  have lD0 : @LT.lt Nat _ L' D := Nat.lt_trans (Nat.lt_succ_self _) lD.2.2.2.1
  have h38L : @LT.lt Nat _ 38 L' := by rcases hT with rfl | ⟨c, oc, rfl, _⟩ <;> exact l1 _ (List.mem_cons_self ..)
  have lTD := fun p hp => Nat.lt_trans (l1 p hp) lD0
  have hDT : ∀ p ∈ T, p.1 ≠ D := fun p hp => Nat.ne_of_lt (lTD p hp)
  have hroo : ∀ dc pm c ctv, iObj w.params [(Str.ofString "n", L' + 1), (Str.ofString "inner", L' + 1 + 1 + 1), (Str.ofString "a_digits", L' + 1 + 1)] dc pm c ctv = fnMade (innerIn w.params 43).1 (Str.ofString "_int2digits.<locals>.inner") (innerIn w.params 43).2.1 (innerIn w.params 43).2.2.1 (innerIn w.params 43).2.2.2 [(Str.ofString "n", L' + 1), (Str.ofString "inner", L' + 1 + 1 + 1), (Str.ofString "a_digits", L' + 1 + 1)] dc pm c ctv := fun _ _ _ _ => rfl
  rw [hin] at hroo
  dsimp only at hroo
  have z1 : ∀ q ∈ rest, @LT.lt Nat _ q.1 g'.objs.size := fun q hq => Heap.lt_size (fr q hq)
  refine cutQ g' L' (DI w.params rest x0 ta L' D (W.listOf vs.toArray 0) oA o3) ?_ ?_
  · rcases hT with rfl | ⟨c, oc, rfl, hcd, h38⟩
    · k_steps
      rename News _ _ _ _ => N3
      rename_i f c oc _ _ ct dc _ _ dd1 dd2 lc lf _ oI _ dI
      rw [show qualnameIn vk (Str.ofString "inner") (Str.ofString "inner") = Str.ofString "_int2digits.<locals>.inner" from rfl, ← hroo] at N3
      refine post_ (by k_asm) (news_blk [[_], [_], [_], [_], [_], [_], [_]] [0, 2, 3, 4, 5, 6, 1] N3) ⟨_, _, _, _, _, _, _, rfl, rfl, dI, ⟨_, _, dd1, dd2⟩, .inr ⟨by first | k_clsL | lia, by first | k_clsL | lia⟩, by first | k_clsL | lia, by first | k_clsL | lia, fun p hp => Nat.ne_of_lt (Nat.lt_of_lt_of_le (z1 p hp) (by first | k_clsL | lia))⟩
    · have hrc : ∀ p ∈ rest, @Ne Nat p.1 c := fun p hp e => hap p hp (by rw [e]; exact List.mem_cons_of_mem _ (List.mem_cons_self ..))
      have hcL : @LT.lt Nat _ c L' := l1 (c, oc) (by k_mem)
      k_steps
      rename News _ _ _ _ => N3
      rename_i f ct dc _ _ lf _ oI _ dI
      rw [show qualnameIn vk (Str.ofString "inner") (Str.ofString "inner") = Str.ofString "_int2digits.<locals>.inner" from rfl, ← hroo] at N3
      refine post_ (by k_asm) N3 ⟨_, _, _, _, _, _, _, rfl, rfl, dI, hcd, .inl (Nat.lt_succ_of_lt hcL), by first | k_clsL | lia, h38, hrc⟩
  · clear N2 F9 hA1 hA2 hA3 hDT lTD hap
    rintro h2 tk2 m2 n2 F2 N2 rq
    walk_at "open"
    obtain ⟨f, c, oc, oI, dc, pm, ctv, rfl, rfl, dI, hcd, off, hDf, h38, hrc⟩ := rq
    walk_at "shut"
    rw [hroo] at N2
    clear hroo
    (try walk_at "red")
    (try walk_at "fold")
    (try refine (let m : Str → Option Value := _; have F' : Fr _ _ _ m := ‹Fr _ _ _ _›; ?_))
    k_steps
    · refine go_ ?_
      rename Fr _ _ _ _ => F9
      rename News _ _ _ _ => N9
      refine' call_inner (tn := tn) (j := k0) ⟨B', F9, X', T', rfl, (room hd (by decide) : dp + 1 + 22 < recursionLimit), (room hu (by decide) : un + 3 + 100 < cLine)⟩ N9 ?m1 ?hin ?m2 ?m3 ?m4 ?m5 ?m6 ?m7 ?dN ?dI ?dA ?code ?ord ?off ?o38 ?hi ?h1 ?h3 ?B ?hx0 ?hx1 ?hlen ?hR ?kk
      case m1 => k_mem
      case hin => exact hin
      case m2 => k_mem
      case m3 => k_mem
      case m4 => k_mem
      case m5 => k_mem
      case m6 => k_mem
      case m7 => k_mem
      case dN => assumption
      case dI => assumption
      case dA => assumption
      case code => exact hcd
      case ord => exact ⟨Nat.lt_succ_self _, Nat.lt_succ_self _, lD.2.1, hDf⟩
      case off => exact off
      case o38 => exact ⟨Nat.lt_succ_of_lt h38L, h38⟩
      case hx0 => exact ha0
      case hx1 => exact hx2
      case h3 => exact hk3
      case h1 => lia
      case hi => exact i1
      case B => exact blank_rep k0
      case hlen => rw [rep_eq, List.length_replicate]; exact hk3
      case hR =>
        lia
      case kk =>
        intro vs2 ds2 n2 h2 tk2 hi2 W2 F2 N2
        have hs := wrote_sum W2
        (try walk_at "red")
        (try walk_at "fold")
        (try refine (let m : Str → Option Value := _; have F' : Fr _ _ _ m := ‹Fr _ _ _ _›; ?_))
        k_steps
        (try walk_at "red")
        (try k_unfold)
        refine leaveM_ (M' := [(_, W.listOf vs2.toArray n2), (38, tabObj #[rawInt 73, rawInt 4, .ref _]), (_, _)]) F2 (news_blk [[_], [_], [_], [_]] [0, 2, 3] N2) (fun F N => ?_)
        exact k _ _ _ _ _ _ _ _ hi2 hs hcd h38 hrc F N
    · (try walk_at "red")
      (try k_unfold)
      rename News _ _ _ _ => N9
      refine leaveM_ (M' := [(_, W.listOf _ 0), (38, tabObj #[rawInt 73, rawInt 4, .ref _]), (_, _)]) (by k_asm) (news_blk [[_], [_], [_], [_], [_], [_], [_]] [1, 5, 6] N9) (fun F N => ?_)
      rename x0 = 0 => z
      exact k _ _ _ _ _ _ _ _ i1 (by rw [z, sum_rep]; rfl) hcd h38 hrc F N
end Mine

end
section
open PySem.Spec PyProof.V PySem PySem.W PySem.W.X PyProof.Rows PySem.Calls
namespace Mine
theorem c_most {w : World} {p : Program} {loose : List Str} {mean : ExcName → Option Value} {mg mb : Str → Option Value} {A₀ : Around} {base h₀ : Heap} {outer : List Env} {cs : Scope} {L : Addr} {m : Str → Option Value} {s : Shared} {dp un : Nat} {gd : Option (List Code)} {cn : Str} {a : Addr} {ccd : Value} {cl : List (Str × Addr)} {rest : Led} {R : Result → Shared → Prop}
   {ML : Addr} {vsM : List Value} {ms : List Int} {n0 : Nat} {b : Int} {tb : Tok}  (hr : PySem.Challenge.rw_to0079_01 = PySem.Challenge.rw_to0079_01)
   (C : Ctx (Khp w.params) p loose mean mg mb A₀ base h₀ outer cs L m s dp 36 un 240) (N : News h₀ L s.heap ([(ML, W.listOf vsM.toArray n0), (38, tabObj #[])] ++ rest)) (hap : ∀ p ∈ rest, p.1 ∉ ([(ML, W.listOf vsM.toArray n0), (38, tabObj #[])] : Led).map (·.1)) (hms : IntsAre vsM ms) (hlen : ms.length = 6) (hm7 : ∀ m ∈ ms, 0 ≤ m ∧ m < 8) (hb0 : 1 ≤ b) (hb2 : b ≤ 2) (hML : @Ne Nat ML 38)
   (kk : ∀ (v : Int) (tt : Tok) (t38 : Array Value) h' tk', v ∈ cutsTo ms b 8 → (∀ a ∈ cutsTo ms b 8, v ≤ a) → Fr h₀ L h' m → News h₀ L h' ([(ML, W.listOf vsM.toArray n0), (38, tabObj t38)] ++ rest) → R (.ok (.ret (.int v tt))) {s with heap := h', toks := tk'}) :
   codeAny (model PySem.Challenge.pw_to0079_01 w) (ktrTop dp un gd cn cs L a ccd cl outer) (.call (.ref 204) ⟨[.ref ML, .int b tb], []⟩) R s := by
  revert hr C
  k_fill
  intro _ C
  refine' enterKC (M := [(ML, W.listOf vsM.toArray n0), (38, tabObj #[])]) C N hap ?k6 ?k7 ?k9 ?kB ?kD ?_ ?c2 ?c3 ?c4
  case k6 => k_is
  case k7 => k_is
  case k9 => exact BindsTo.of_eq rfl
  case kB => exact rfl
  case kD => decide
  case c2 => exact rfl
  case c3 => exact rfl
  case c4 => exact rfl
  have hd := C.hd
  have hu := C.hu
  have hke := C.hke
  clear C N
  intro g' L' h₁ tk₁ cells FG' F' N' Y B' st X' T' fr l1 vk ak
  (try walk_at "red")
  walk_at "fold"
  have h1M : Halt "call ref" := trivial
  have h2M : Halt "pyIter ref" := trivial
  have h3M : Halt "CompSrcT" := trivial
  have h4M : Halt "CompEnd" := trivial
  walk_at "open"
  obtain ⟨o1, hE, d1⟩ := CellsAre.one Y
  walk_at "shut"
  subst hE
  clear Y
  dsimp only [List.cons_append, List.nil_append] at N'
  k_lt l1
  replace F' : Fr g' L' h₁ (fun z => if z = Str.ofString "b" then some (.int b tb) else if z = Str.ofString "masks" then some (.ref ML) else none) := fr_congr F' (fun z => rfl)
  clear st
  (try walk_at "fold")
  have hM : Halt "exec For Name Call cons nil" := trivial
  k_steps
  refine go_ ?_
  (k_dflt (refine' wpAny_For ?_ ?zhs; (case zhs => exact fun _ => rfl)))
  clear hM
  k_steps
  refine go_ ?_
  rename Fr _ _ _ _ => F9
  rename News _ _ _ _ => N9
  rename_i CL _ l1G _ F0 N0 _ _ _ _ _ hr' _
  clear F0 N0
  have hCM : @Ne Nat CL ML := by lia
  refine for_rc (hE := by passes_own) rfl rfl rfl rfl (JM ms b tb ML CL vsM n0) hr' (by decide) (n := 8) (by rfl) F9 (news := [(CL, W.listOf #[] 0), (ML, W.listOf vsM.toArray n0), (38, tabObj #[])]) (oc := o1) ((news_blk [[_], [_], [_], [_]] [1, 0, 2, 3] N9)) d1 (fun q hq => by simp only [List.mem_cons, List.not_mem_nil, or_false] at hq; rcases hq with rfl | rfl | rfl <;> k_ne) ⟨[], _, _, .nil, rfl, rfl, rfl, .inl rfl, rfl⟩ ?_ ?_
  · rintro I i t₀ m₁ n₁ h tk oI o' hi8 rq1 hoff hIc hcell F1 N1
    walk_at "open"
    obtain ⟨vs, n, T, hvs, e1, e2, e3, hT, rfl⟩ := rq1
    walk_at "shut"
    clear F9 N9
    have F2 := fr1 (fr1 (fr1 F1 (a := Str.ofString "b") e3) (a := Str.ofString "masks") ((if_neg (by decide +kernel)).trans e2)) (a := Str.ofString "cuts") ((if_neg (by decide +kernel)).trans ((if_neg (by decide +kernel)).trans e1))
    clear F1 e1 e2 e3
    walk_at "open"
    obtain ⟨k0, hfd, hk0, hk3, hx2⟩ := bits_ok (x := 0 + (i : Int)) (by lia) (by lia)
    walk_at "shut"
    have hvl : vs.length ≤ 8 := by rw [hvs.length]; unfold cutsTo; rw [List.length_map, List.length_range]; lia
    have hTo : ∀ q ∈ T, (q.1 ≠ I ∧ q.1 ≠ L' + 1) ∧ q.1 ≠ CL ∧ q.1 ≠ ML := fun q hq => ⟨hoff q (List.mem_cons_of_mem _ (List.mem_cons_of_mem _ hq)), by
      rcases hT with rfl | ⟨c, oc, rfl, _, _, hMc, hCc⟩
      · exact fcons (P := fun q : Addr × Obj => q.1 ≠ CL ∧ q.1 ≠ ML) ⟨by k_ne, Ne.symm hML⟩ fnil q hq
      · exact fcons (P := fun q : Addr × Obj => q.1 ≠ CL ∧ q.1 ≠ ML) ⟨by k_ne, Ne.symm hML⟩ (fcons ⟨Ne.symm hCc, Ne.symm hMc⟩ fnil) q hq⟩
    have h38o : (38 : Nat) ≠ I ∧ (38 : Nat) ≠ L' + 1 := by
      rcases hT with rfl | ⟨c, oc, rfl, _⟩
      · exact (hTo (38, _) (by k_mem)).1
      · exact (hTo (38, _) (by k_mem)).1
    (try walk_at "fold")
    k_steps
    refine go_ ?_
    refine wpAny_call ?_
    refine c_i2d (T := T) (k0 := k0) rfl ⟨B', F2, X', T', rfl, (room hd (by decide) : dp + 1 + 30 < recursionLimit), (room hu (by decide) : un + 3 + 200 < cLine)⟩ (rest := [(I, oI), (L' + 1, o'), (CL, W.listOf vs.toArray n), (ML, W.listOf vsM.toArray n0)])
      (hT.imp id fun ⟨c, oc, e, h1, h2, _⟩ => ⟨c, oc, e, h1, h2⟩) (news_blk [[_], [_], [_], [_], _] [4, 0, 1, 2, 3] N1)
      (fcons (nin_map fun q hq => (hTo q hq).1.1) (fcons (nin_map fun q hq => (hTo q hq).1.2) (fcons (nin_map fun q hq => (hTo q hq).2.1) (fcons (nin_map fun q hq => (hTo q hq).2.2) fnil)))) (by lia) (by lia) hfd hk0 hk3 hx2 (fun t3 c oc vs2 ds2 n2 h3 tk3 hi2 hs2 hcd h38 hrc F3 N3 => ?_)
    dsimp only [List.cons_append, List.nil_append] at N3
    (try walk_at "red")
    clear N1 F2
    (try walk_at "fold")
    k_steps
    refine go_ ?_
    refine LCt.CompSrcT.ledger rfl (by k_asm) (by k_asm) (by k_mem) (by rw [List.size_toArray, hms.length, hlen, sizeLine_eq]; decide) ?_
    intro g9
    refine compT_all (JT [(38, tabObj #[rawInt 73, rawInt 4, .ref c]), (c, oc), (I, oI), (L' + 1, o'), (CL, W.listOf vs.toArray n), (ML, W.listOf vsM.toArray n0)] ms (0 + (i : Int))) _ ?_ ?_ (Nat.zero_add _) ⟨fun q hq => List.mem_cons_of_mem _ hq, rfl⟩
    · rintro j ys nw v I2 oI2 C oC D2 m₂ h5 tk5 E5 hj hv rq1 hC hxx F5 N5 off5 ne5
      walk_at "open"
      obtain ⟨hH, hys⟩ := rq1
      walk_at "shut"
      replace off5 := has_off hH off5
      replace N5 := has_news hH N5
      clear hH
      walk_at "open"
      obtain ⟨mm, tm, rfl, hmj⟩ := ints_at hms (by simpa using hv)
      walk_at "shut"
      (try walk_at "fold")
      k_steps
      · rename Builtin.bitAnd _ _ ≠ 0 => hz
        refine go_ ?_
        refine LCg.CompEnd.intro F5 N5 _ (fun _ h => h) off5 (.inr ⟨_, by k_mem, rfl, _, rfl⟩) ⟨Has.refl _, ?_⟩
        rw [List.length_append, hys, take_filter hmj, show hitB (0 + (i : Int)) mm = true from bne_iff_ne.mpr hz]; rfl
      · rename Builtin.bitAnd _ _ = 0 => hz
        refine go_ ?_
        refine LCg.CompEnd.intro F5 N5 _ (fun _ h => h) off5 (.inr ⟨_, by k_mem, rfl, _, rfl⟩) ⟨Has.refl _, ?_⟩
        rw [hys, take_filter hmj, show hitB (0 + (i : Int)) mm = false from by unfold hitB; rw [hz]; rfl]; rfl
    · rintro ys nw rq1
      walk_at "open"
      obtain ⟨hH, hys⟩ := rq1
      walk_at "shut"
      unfold LCg.FinE
      intro D9 h9 tk9 F9 N9 o9
      replace N9 := has_news1 hH N9
      have hD9 : @Ne Nat CL D9 := off1_mem o9 (CL, _) (hH _ (by k_mem))
      clear hH o9
      have hCI : @Ne Nat CL I := (hoff (CL, _) (List.mem_cons_self ..)).1
      have hCc : @Ne Nat CL c := hrc (CL, _) (by k_mem)
      have hMc : @Ne Nat ML c := hrc (ML, _) (by k_mem)
      have hcx : c ≠ I ∧ c ≠ L' + 1 := ⟨Ne.symm (hrc (I, _) (by k_mem)), Ne.symm (hrc (L' + 1, _) (by k_mem))⟩
      replace hys : ys.length = ((ms.take vsM.toArray.size).filter (hitB (0 + (i : Int)))).length := hys
      rw [List.size_toArray, hms.length, List.take_length] at hys
      have hy7 : ys.length ≤ 1000 := by rw [hys]; exact Nat.le_trans (List.length_filter_le _ _) (by lia)
      have hy6 : ys.length ≤ 6 := by rw [hys]; exact Nat.le_trans (List.length_filter_le _ _) (by lia)
      (try walk_at "fold")
      have iM : Halt "call builtin:len" := trivial
      k_steps
      refine go_ ?_
      (k_dflt (refine len_led (by k_asm) (by k_mem) (by assumption) ?_); intro _ _)
      clear iM
      k_steps
      rename Fr _ _ _ _ => F10
      rename News _ _ _ _ => N10
      walk_at "open"
      obtain ⟨t9, N10⟩ : ∃ t9, News g' L' _ [(D9, LCg.lst ys), (38, tabObj #[rawInt 73, rawInt 4, .ref c]), (c, oc), (I, oI), (L' + 1, o'), (CL, W.listOf (vs ++ [Value.int (b * ds2.sum + (ys.length : Nat)) t9]).toArray (n + 1)), (ML, W.listOf vsM.toArray n0)] := ⟨_, by rw [← List.push_toArray]; exact N10⟩
      walk_at "shut"
      refine ⟨_, _, _, (CL, W.listOf (vs ++ [Value.int (b * ds2.sum + (ys.length : Nat)) t9]).toArray (n + 1)) :: (ML, W.listOf vsM.toArray n0) :: [(38, tabObj #[rawInt 73, rawInt 4, .ref c]), (c, oc)], o', _, rfl, F10, (news_blk [[_], [_], [_], [_], [_], [_], [_]] [3, 4, 5, 6, 1, 2] N10), hcell, ?_, ⟨_, _, _, ?_, rfl, rfl, rfl, .inr ⟨c, oc, rfl, hcd, h38, hMc, hCc⟩, rfl⟩⟩
      · exact fcons (hoff (CL, W.listOf vs.toArray n) (by k_mem)) (fcons (hoff (ML, W.listOf vsM.toArray n0) (by k_mem)) (fcons h38o (fcons hcx fnil)))
      · have e : b * ds2.sum + (ys.length : Nat) = cutOf ms b (i : Int) := by unfold cutOf; rw [hs2, hys, Int.zero_add]
        rw [cutsTo_succ, ← e]
        exact hvs.append (.cons _ _ .nil)
  · rintro h tk m₁ n₁ rq1 F1 N1
    walk_at "open"
    obtain ⟨vs, n, T, hvs, e1, e2, e3, hT, rfl⟩ := rq1
    walk_at "shut"
    clear F9 N9
    have F2 := fr1 F1 (a := Str.ofString "cuts") e1
    obtain ⟨t38, ht38⟩ : ∃ t38, ((38 : Addr), tabObj t38) ∈ T := by rcases hT with rfl | ⟨c, oc, rfl, _⟩ <;> exact ⟨_, List.mem_cons_self⟩
    have N2 : News g' L' h [(CL, W.listOf vs.toArray n), (ML, W.listOf vsM.toArray n0), (38, tabObj t38)] := news_sub N1 (fun q hq => by simp only [List.mem_cons, List.not_mem_nil, or_false] at hq ⊢; rcases hq with hq | hq | hq <;> simp only [hq, ht38, true_or, or_true])
    clear F1 N1
    have hcl : (cutsTo ms b 8).length = 8 := by unfold cutsTo; rw [List.length_map, List.length_range]
    (try walk_at "fold")
    k_steps
    rename News _ _ _ _ => N10
    (try k_unfold)
    refine leaveM_ (M' := [(ML, W.listOf vsM.toArray n0), (38, tabObj t38)]) (by k_asm) ((news_blk [[_], [_], [_]] [1, 2] N10)) (fun F N => ?_)
    exact kk _ _ _ _ _ (by assumption) (by assumption) F N
end Mine

end
section
open PySem.Spec PyProof.V PySem PySem.W PySem.W.X PyProof.Rows PySem.Calls
namespace Mine
theorem c_first {w : World} {p : Program} {loose : List Str} {mean : ExcName → Option Value} {mg mb : Str → Option Value} {A₀ : Around} {base h₀ : Heap} {outer : List Env} {cs : Scope} {L : Addr} {m : Str → Option Value} {s : Shared} {dp un : Nat} {gd : Option (List Code)} {cn : Str} {a : Addr} {ccd : Value} {cl : List (Str × Addr)} {rest : Led} {R : Result → Shared → Prop}
   {k : Mch} {text : Str} {line pos : Int} {tl tp tf : Tok} {pn n0 : Nat} {ps os : List Value} {names offs : List Nat} {O : Addr}  (hr : PySem.Challenge.rw_to0079_01 = PySem.Challenge.rw_to0079_01)
   (C : Ctx (Khp w.params) p loose mean mg mb A₀ base h₀ outer cs L m s dp 16 un 100) (N : News h₀ L s.heap ((O, W.listOf os.toArray n0) :: k.own w.params line tl ps pn pos tp ++ rest)) (hap : ∀ p ∈ rest, p.1 ∉ ((O, W.listOf os.toArray n0) :: k.own w.params line tl ps pn pos tp : Led).map (·.1)) (hk : Mch.Ok k text) (hps : StrsAre ps (names.map one)) (hos : StrsAre os (offs.map one)) (hn6 : names.length ≤ 18) (ho6 : offs.length ≤ 18) (hO : O ∉ (k.own w.params line tl ps pn pos tp).map (·.1))
   (kk : ∀ (ps' : List Value) (pn' : Nat) (tt : Tok) h' tk', StrsAre ps' ((lineAfter names offs).map one) → Fr h₀ L h' m → News h₀ L h' ((O, W.listOf os.toArray n0) :: k.own w.params line tl ps' pn' pos tp ++ rest) → R (.ok (.ret (.str (taken (firstOf names offs)) tt))) {s with heap := h', toks := tk'}) :
   codeAny (model PySem.Challenge.pw_to0079_01 w) (ktrTop dp un gd cn cs L a ccd cl outer) (.call (.ref 211) ⟨[.ref k.x, .int (names.length : Nat) tf, .ref O], []⟩) R s := by
  revert hr C
  k_fill
  intro _ C
  refine' enterK (M := (O, W.listOf os.toArray n0) :: k.own w.params line tl ps pn pos tp) C N hap ?k6 ?k7 ?k9 ?kB ?_ ?c5 ?c2 ?c3 ?c4
  case k6 => k_is
  case k7 => k_is
  case k9 => exact BindsTo.of_eq rfl
  case kB => exact locs rfl
  case c5 => decide
  case c2 => exact rfl
  case c3 => exact rfl
  case c4 => exact rfl
  have hd := C.hd
  have hu := C.hu
  have hke := C.hke
  clear C N
  intro g' L' h₁ tk₁ FG' F' N' B' st X' T' fr l1 vk ak
  (try walk_at "red")
  walk_at "fold"
  have h1M : Halt "call ref" := trivial
  have h2M : Halt "pyIter ref" := trivial
  dsimp only [Mch.own, List.cons_append, List.nil_append] at l1
  have ord := hk.ord
  k_lt l1
  clear st
  replace F' : Fr g' L' h₁ (fun z => if z = Str.ofString "offered" then some (.ref O) else if z = Str.ofString "free" then some (.int (names.length : Nat) tf) else if z = Str.ofString "line" then some (.ref k.x) else none) := fr_congr F' (fun z => look1 z (look1 z (look1 z rfl)))
  (try walk_at "fold")
  (try refine (let m : Str → Option Value := _; have F' : Fr _ _ _ m := ‹Fr _ _ _ _›; ?_))
  k_steps
  refine go_ ?_
  rename Fr _ _ _ _ => F9
  rename News _ _ _ _ => N9
  rename_i hr' _
  refine it_range rfl (JF w.params k line pos tl tp names offs os n0 O) hr' (range_ok (by lia)).1 (n := names.length) (range_ok (by lia)).2 F9 N9 ⟨ps, pn, by simpa using hps, by simp, rfl, rfl, rfl⟩ ?_ ?_
  · rintro I i t₀ m₁ n₁ h tk oI hi rq1 hoI F1 N1
    walk_at "open"
    obtain ⟨ps2, pn2, hps2, hno, e1, e2, rfl⟩ := rq1
    walk_at "shut"
    clear F9 N9
    have hi' : names[i]? = some names[i] := List.getElem?_eq_getElem hi
    generalize names[i] = c at hi'
    rw [show names.drop i = c :: names.drop (i + 1) by rw [List.drop_eq_getElem?_toList_append, hi']; rfl, List.cons_append, List.map_cons] at hps2
    walk_at "open"
    obtain ⟨t, ps3, rfl, hps3⟩ := strs_cons hps2
    walk_at "shut"
    have hl3 : ps3.length ≤ 100 := by
      rw [strs_len hps3, List.length_map, List.length_append, List.length_drop, List.length_take]
      exact hlA (by assumption) (Nat.le_refl _)
    have F2 := fr1 (fr1 F1 (a := Str.ofString "offered") ((if_neg (by decide +kernel)).trans e2)) (a := Str.ofString "line") ((if_neg (by decide +kernel)).trans e1)
    clear F1 e1 e2
    have hapR : ∀ o : Obj, ∀ q ∈ ([(I, oI), (O, o)] : Led), q.1 ∉ (k.own w.params line tl (Value.str ⟨#[c]⟩ t :: ps3) pn2 pos tp).map (·.1) := fun o => fcons (nin_map fun p hp => hoI p (.tail _ hp)) (fcons hO fnil)
    (try walk_at "fold")
    (try refine (let m : Str → Option Value := _; have F' : Fr _ _ _ m := ‹Fr _ _ _ _›; ?_))
    k_steps
    refine go_ ?_
    refine wpAny_call ?_
    refine c_pop rfl ⟨B', F2, X', T', rfl, (room hd (by decide) : dp + 1 + 3 < recursionLimit), (room hu (by decide) : un + 3 + 20 < cLine)⟩ (rest := [(I, oI), (O, W.listOf os.toArray n0)]) (news_rot2 N1) (hapR _) hk hl3 (fun pn3 h3 tk3 F3 N3 => ?_)
    replace N3 := news_rot2' N3
    (try walk_at "red")
    clear N1 F2
    (try walk_at "fold")
    (try refine (let m : Str → Option Value := _; have F' : Fr _ _ _ m := ‹Fr _ _ _ _›; ?_))
    k_steps
    · rename List.any _ _ = true => ha
      rw [any_one] at ha
      have hz := first_hit hi' hno (List.elem_iff.mp ha)
      dsimp only [StepP]
      (try k_unfold)
      refine leaveM_ (M' := (O, W.listOf os.toArray n0) :: k.own w.params line tl ps3 pn3 pos tp) (by k_asm) (news_blk [[_], _] [1] (show News g' L' _ ((I, oI) :: (O, W.listOf os.toArray n0) :: k.own w.params line tl ps3 pn3 pos tp) by k_asm)) (fun F N => ?_)
      have e : one c = taken (firstOf names offs) := by rw [hz.1]; rfl
      show R (.ok (.ret (.str (one c) t))) _
      rw [e]
      exact kk ps3 pn3 t _ _ (by rw [hz.2]; exact hps3) F N
    · rename List.any _ _ = false => ha
      rw [any_one] at ha
      have hnc : c ∉ offs := fun q => absurd (ha.symm.trans (show offs.contains c = true from List.elem_iff.mpr q)) (by decide)
      refine go_ ?_
      refine wpAny_call ?_
      refine c_push (push := ps3) (pn := pn3) (line := line) (tl := tl) (pos := pos) (tp := tp) rfl ⟨B', (by k_asm), X', T', rfl, (room hd (by decide) : dp + 1 + 3 < recursionLimit), (room hu (by decide) : un + 3 + 20 < cLine)⟩ (rest := [(I, oI), (O, W.listOf os.toArray n0)]) (news_rot2 (by k_asm)) (hapR _) hk hl3 (fun pn4 h4 tk4 F5 N5 => ?_)
      (try walk_at "red")
      (try walk_at "fold")
      (try refine (let m : Str → Option Value := _; have F' : Fr _ _ _ m := ‹Fr _ _ _ _›; ?_))
      k_steps
      refine stepP_next (by k_asm) (news_rot2' N5) (ne_keys (l := (O, W.listOf os.toArray n0) :: k.own w.params line tl (Value.str ⟨#[c]⟩ t :: ps3) pn2 pos tp) rfl hoI) ⟨ps3 ++ [Value.str ⟨#[c]⟩ t], pn4, ?_, ?_, rfl, rfl, rfl⟩
      · rw [take_next hi', ← List.append_assoc, List.map_append]; exact strs_snoc hps3
      · intro x hx
        rw [take_next hi'] at hx
        rcases List.mem_append.mp hx with hx | hx
        · exact hno x hx
        · rw [List.mem_singleton.mp hx]; exact hnc
  · rintro h tk m₁ n₁ rq1 F1 N1
    walk_at "open"
    obtain ⟨ps2, pn2, hps2, hno, e1, e2, rfl⟩ := rq1
    walk_at "shut"
    clear F9 N9
    rw [List.drop_eq_nil_of_le (Nat.le_refl _), List.nil_append, List.take_of_length_le (Nat.le_refl _)] at hps2
    rw [List.take_of_length_le (Nat.le_refl _)] at hno
    have hz := first_miss hno
    (try walk_at "fold")
    (try refine (let m : Str → Option Value := _; have F' : Fr _ _ _ m := ‹Fr _ _ _ _›; ?_))
    k_steps
    (try k_unfold)
    refine leaveM_ (M' := (O, W.listOf os.toArray n0) :: k.own w.params line tl ps2 pn2 pos tp) (by k_asm) (by k_asm) (fun F N => ?_)
    have e : Str.ofString "" = taken (firstOf names offs) := by rw [hz.1]; rfl
    show R (.ok (.ret (.str (Str.ofString "") _))) _
    rw [e]
    exact kk ps2 pn2 _ _ _ (by rw [hz.2]; exact hps2) F N
end Mine

end
section
open PySem.Spec PyProof.V PySem PySem.W PySem.W.X PyProof.Rows PySem.Calls
namespace Mine
theorem c_foe {w : World} {p : Program} {loose : List Str} {mean : ExcName → Option Value} {mg mb : Str → Option Value} {A₀ : Around} {base h₀ : Heap} {outer : List Env} {cs : Scope} {L : Addr} {m : Str → Option Value} {s : Shared} {dp un : Nat} {gd : Option (List Code)} {cn : Str} {a : Addr} {ccd : Value} {cl : List (Str × Addr)} {rest : Led} {R : Result → Shared → Prop}
   {c1 c2 : Addr} {q1 q2 : Obj} {b hosts : Nat} {seed : Int} {tb th ts : Tok}  (hr : PySem.Challenge.rw_to0079_01 = PySem.Challenge.rw_to0079_01)
   (C : Ctx (Khp w.params) p loose mean mg mb A₀ base h₀ outer cs L m s dp 40 un 300) (N : News h₀ L s.heap ([(c2, q2), (c1, q1), (177, tabObj #[rawInt 185, rawInt 4, .ref c1, rawInt 189, rawInt 13, .ref c2])] ++ rest)) (hap : ∀ p ∈ rest, p.1 ∉ ([(c2, q2), (c1, q1), (177, tabObj #[rawInt 185, rawInt 4, .ref c1, rawInt 189, rawInt 13, .ref c2])] : Led).map (·.1)) (h12 : @LT.lt Nat _ 177 c1 ∧ @LT.lt Nat _ c1 c2) (k1 : codeHas q1 (Str.ofString "_law_machine.<locals>._law_read_on")) (k2 : codeHas q2 (Str.ofString "_law_machine.<locals>.<lambda>")) (hb : BH b hosts)
   (kk : ∀ (T OL SL : Addr) (vO vS : List Value) (nO nS : Nat) (t0 : Tok) (offs : List (List Nat)) (sts : List Nat) (offled : Led) h' tk', OffsAre offled vO offs → StrsAre vS (sts.map one) → offs.length = sts.length → (∀ (k : Nat) c, sts[k]? = some c → ∃ os, offs[k]? = some os ∧ c ∈ os) → sts.Perm (repb b (hostsL hosts)) → Fr h₀ L h' m → News h₀ L h' ([(T, { cls := .type "tuple", data := .seq #[.int (asum hosts b b : Nat) t0, .ref OL, .ref SL] }), (OL, W.listOf vO.toArray nO), (SL, W.listOf vS.toArray nS)] ++ (offled ++ ([(c2, q2), (c1, q1), (177, tabObj #[rawInt 185, rawInt 4, .ref c1, rawInt 189, rawInt 13, .ref c2])] ++ rest))) → R (.ok (.ret (.ref T))) {s with heap := h', toks := tk'}) :
   codeAny (model PySem.Challenge.pw_to0079_01 w) (ktrTop dp un gd cn cs L a ccd cl outer) (.call (.ref 216) ⟨[.int (b : Nat) tb, .int (hosts : Nat) th, .int seed ts], []⟩) R s := by
  revert hr C
  k_fill
  intro _ C
  refine' enterKC (M := [(c2, q2), (c1, q1), (177, tabObj #[rawInt 185, rawInt 4, .ref c1, rawInt 189, rawInt 13, .ref c2])]) C N hap ?k6 ?k7 ?k9 ?kB ?kD ?_ ?c2 ?c3 ?c4
  case k6 => k_is
  case k7 => k_is
  case k9 => exact BindsTo.of_eq rfl
  case kB => exact rfl
  case kD => decide
  case c2 => exact rfl
  case c3 => exact rfl
  case c4 => exact rfl
  have hd := C.hd
  have hu := C.hu
  have hke := C.hke
  clear C N
  intro g' L' h₁ tk₁ cells FG' F' N' Y B' st X' T' fr l1 vk ak
  (try walk_at "red")
  walk_at "fold"
  have h1M : Halt "call ref" := trivial
  have h2M : Halt "pyIter ref" := trivial
  have h3M : Halt "CompSrc" := trivial
  have h4M : Halt "CompEnd" := trivial
  have h5M : Halt "Src2" := trivial
  have h6M : Halt "Open2" := trivial
  have h7M : Halt "End2" := trivial
  have h8M : Halt "call builtin:sorted" := trivial
  have h9M : Halt "call builtin:len" := trivial
  walk_at "open"
  obtain ⟨o1, o2, o3, hE, d1, d2, d3⟩ := CellsAre.three Y
  walk_at "shut"
  subst hE
  clear Y
  dsimp only [List.cons_append, List.nil_append] at N'
  k_lt l1
  clear st
  have e1 : o1.data = .cell (some (.int seed ts)) := d1
  have e2 : o2.data = .cell (some (.int (hosts : Nat) th)) := d2
  have e3 : o3.data = .cell (some (.int (b : Nat) tb)) := d3
  clear d1 d2 d3
  (try walk_at "fold")
  (try refine (let m : Str → Option Value := _; have F' : Fr _ _ _ m := ‹Fr _ _ _ _›; ?_))
  k_steps
  refine go_ ?_
  refine wpAny_call ?_
  refine c_machine1 rfl ⟨B', F', X', T', rfl, (room hd (by decide) : dp + 1 + 3 < recursionLimit), (room hu (by decide) : un + 3 + 20 < cLine)⟩ (rest := [(L' + 1 + 1 + 1, o1), (L' + 1 + 1, o2), (L' + 1, o3)]) ((news_blk [[_], [_], [_], [_], [_], [_]] [3, 4, 5, 0, 1, 2] N')) (fun q hq => ?_) h12 k1 k2 (fun k tl pn tp h2 tk2 hk hk1 hoff hct F2 N2 => ?_)
  · revert q
    exact fcons (nin_map (l := tabLed c1 c2 q1 q2) (fcons (by k_ne) (fcons (by k_ne) (fcons (by k_ne) fnil)))) (fcons (nin_map (l := tabLed c1 c2 q1 q2) (fcons (by k_ne) (fcons (by k_ne) (fcons (by k_ne) fnil)))) (fcons (nin_map (l := tabLed c1 c2 q1 q2) (fcons (by k_ne) (fcons (by k_ne) (fcons (by k_ne) fnil)))) fnil))
  have ord := hk.ord
  have hcl : @LT.lt Nat _ (L' + 1 + 1 + 1) k.ct := hct _ (List.mem_cons_self ..)
  walk_at "open"
  obtain ⟨TL, hTe⟩ : ∃ TL, TL = ([(c2, q2), (c1, q1), (177, tabObj #[rawInt 185, rawInt 4, .ref c1, rawInt 189, rawInt 13, .ref c2])] : Led) := ⟨_, rfl⟩
  walk_at "shut"
  have hTL : ∀ q ∈ TL, @LT.lt Nat _ q.1 L' := fun q hq => by
    rw [hTe] at hq
    revert q
    (refine fcons ?_ (fcons ?_ (fcons ?_ fnil))) <;> (refine ltN ?_; (try dsimp only); first | k_clsL | lia)
  have N3 : News g' L' h2 ((L' + 1 + 1 + 1, o1) :: (L' + 1 + 1, o2) :: (L' + 1, o3) :: (k.own w.params 1 tl [] pn 0 tp ++ TL)) := by
    rw [hTe]
    exact (news_blk [[_], [_], [_], [_], [_], [_], [_], [_], [_], [_], [_], [_], [_], [_], [_]] [12, 13, 14, 0, 1, 2, 3, 4, 5, 6, 7, 8, 9, 10, 11] N2)
  have hTLc : ∀ q ∈ TL, @LT.lt Nat _ q.1 k.ct := fun q hq => Nat.lt_trans (hTL q hq) (Nat.lt_of_succ_lt (Nat.lt_of_succ_lt (Nat.lt_of_succ_lt hcl)))
  refine (let ml : Led := k.own w.params 1 tl [] pn 0 tp ++ TL; have N3 : News g' L' _ (_ :: _ :: _ :: ml) := N3; ?_)
  have hplm : (k.pl, W.listOf #[] pn) ∈ ml := by exact List.mem_append_left _ (List.mem_cons_self ..)
  clear N' F' hct N2 hoff hk1 h12 k1 k2
  have hbh : (b : Int) * (hosts : Int) = ((b * hosts : Nat) : Int) := by simp
  have hbk := hb.ok
  have hbh18 : b * hosts ≤ 18 ∧ 2 ≤ b * hosts := hbk.2.2.2.2
  have hh9 : hosts ≤ 9 := hbk.2.2.2.1
  have hh2 : 2 ≤ hosts := hbk.2.2.1
  have hh0 : (hosts : Int) ≠ 0 := by lia
  have hBb := bits_nat (Nat.le_trans hbk.2.1 (by decide))
  have hBh := bits_nat (Nat.le_trans hh9 (by decide))
  clear hbk
  (try walk_at "red")
  (try walk_at "fold")
  (try refine (let m : Str → Option Value := _; have F' : Fr _ _ _ m := ‹Fr _ _ _ _›; ?_))
  have hM : Halt "exec For Tuple Call cons nil" := trivial
  k_steps
  refine go_ ?_
  clear hM
  refine' wpAny_For ?_ ?zhs
  case zhs => exact fun _ => rfl
  k_steps
  refine go_ ?_
  refine LCg.CompSrc.range (by rfl) (by k_asm) (by k_asm) (by assumption) (by rw [hbh]; exact (range_ok (by lia)).1) (n := b * hosts) (by rw [hbh]; exact (range_ok (by lia)).2) (by rw [sizeLine_eq]; lia) ?_
  intro g9
  refine comp_all (JPR k.pl hosts ((L' + 1 + 1 + 1, o1) :: (L' + 1 + 1, o2) :: (L' + 1, o3) :: ml)) (b * hosts) ?_ ?_ (Nat.zero_add _) ⟨[], [], rfl, (fun _ h => nomatch h), ⟨rfl, (fun i v h => nomatch h)⟩, rfl⟩
  · rintro j ys nw v I2 oI2 C oC D m₃ h5 tk5 E5 hj rq1 rq2 hC hx F7 N7 off ne
    walk_at "open"
    obtain ⟨t9, rfl⟩ := rq1
    obtain ⟨tups, ps, rfl, htu, hps, hpm⟩ := rq2
    walk_at "shut"
    replace N7 := news_cells (l := ml) (fun p hp => List.mem_append_right _ hp) N7
    have hj1 : 0 + (j : Int) + 1 ≠ 0 := by lia
    (try walk_at "red")
    (try walk_at "fold")
    (try refine (let m : Str → Option Value := _; have F' : Fr _ _ _ m := ‹Fr _ _ _ _›; ?_))
    k_steps
    refine go_ ?_
    rename News _ _ _ _ => N8
    rename Fr _ _ _ _ => F8
    rename_i T _ l1T
    have hTpl : @LT.lt Nat _ k.pl T := allLt_mem l1T.2.2.2.2.2.2 (k.pl, W.listOf #[] pn) (List.mem_append_right _ (List.mem_cons_of_mem _ (List.mem_cons_of_mem _ (List.mem_cons_of_mem _ hplm))))
    refine LCg.CompEnd.intro F8 N8 ((T, tup2 _ _ _ _) :: (tups ++ ((L' + 1 + 1 + 1, o1) :: (L' + 1 + 1, o2) :: (L' + 1, o3) :: ml))) sub_tup ⟨⟨by k_ne, by k_ne, by k_ne⟩, off⟩ trivial ⟨(T, tup2 _ _ _ _) :: tups, _, rfl, fun q hq => ?_, hps.snoc (fun p hp => List.mem_cons_of_mem _ hp) (List.mem_cons_self ..), ?_⟩
    · rcases List.mem_cons.mp hq with rfl | hq
      · exact hTpl
      · exact htu q hq
    · rw [List.map_append, hpm, List.range_succ, List.map_append, fmod_nat]
      rfl
  · rintro ys nw rq1
    walk_at "open"
    obtain ⟨tups, ps, rfl, htu, hps, hpm⟩ := rq1
    walk_at "shut"
    have hysl : ys.length = b * hosts := by
      rw [hps.1]
      have := congrArg List.length hpm
      simpa using this
    unfold LCg.FinE
    intro D9 h9 tk9 F9 N9 o9
    (try walk_at "red")
    (try walk_at "fold")
    (try refine (let m : Str → Option Value := _; have F' : Fr _ _ _ m := ‹Fr _ _ _ _›; ?_))
    k_steps
    refine go_ ?_
    refine sorted_pairs (by k_asm) (by k_asm) (List.mem_cons_self ..) (fun p hp => List.mem_cons_of_mem _ (List.mem_append_left _ hp)) hps (by lia) (by lia) (fun D2 vs2 ps2 cc h10 tk10 F10 N10 lo10 hps2 hpp => ?_)
    have hD2 : @LT.lt Nat _ k.pl D2 := lo10 (k.pl, W.listOf #[] pn) (List.mem_cons_of_mem _ (List.mem_append_right _ (List.mem_cons_of_mem _ (List.mem_cons_of_mem _ (List.mem_cons_of_mem _ hplm)))))
    replace N10 := news_foe N10
    clear N9 F9 o9 lo10
    have hvl : vs2.length = b * hosts := by rw [hps2.1, hpp.length_eq, ← hps.1]; exact hysl
    have hrst : ∀ q ∈ ((D2, W.listOf vs2.toArray cc) :: (L' + 1 + 1 + 1, o1) :: (L' + 1 + 1, o2) :: (L' + 1, o3) :: (tups ++ TL) : Led), ∀ ps pn, q.1 ∉ (k.own w.params 1 tl ps pn 0 tp).map (·.1) := fun q hq ps pn => by
      simp only [List.mem_cons, List.mem_append] at hq
      rcases hq with rfl | rfl | rfl | rfl | hq | hq
      · exact own_above hk hD2
      · exact own_below hk hcl
      · exact own_below hk (Nat.lt_of_succ_lt hcl)
      · exact own_below hk (Nat.lt_of_succ_lt (Nat.lt_of_succ_lt hcl))
      · exact own_above hk (htu q hq)
      · exact own_below hk (Nat.lt_trans (hTL q hq) (Nat.lt_of_succ_lt (Nat.lt_of_succ_lt (Nat.lt_of_succ_lt hcl))))
    refine (let rst : Led := ((D2, W.listOf vs2.toArray cc) :: (L' + 1 + 1 + 1, o1) :: (L' + 1 + 1, o2) :: (L' + 1, o3) :: (tups ++ TL) : Led); have N10 : News g' L' _ (_ ++ rst) := N10; ?_)
    have hD2r : (D2, W.listOf vs2.toArray cc) ∈ rst := by exact List.mem_cons_self ..
    have htr : ∀ q ∈ tups, q ∈ rst := fun q hq => by exact List.mem_cons_of_mem _ (List.mem_cons_of_mem _ (List.mem_cons_of_mem _ (List.mem_cons_of_mem _ (List.mem_append_left _ hq))))
    (try walk_at "red")
    (try walk_at "fold")
    (try refine (let m : Str → Option Value := _; have F' : Fr _ _ _ m := ‹Fr _ _ _ _›; ?_))
    k_steps
    refine go_ ?_
    refine for_tl (hE := by passes_own) (l := D2) (vs := vs2) (n := cc) rfl (JTf w.params k tl tp ps2 rst) ?_ (by k_asm) N10 ⟨[], pn, .nil, rfl, rfl⟩ ?_ ?_
    · rintro i m' n' rq1
      walk_at "open"
      obtain ⟨push, pn, _, _, rfl⟩ := rq1
      walk_at "shut"
      exact List.mem_append_right _ hD2r
    · rintro I i v m₁ n₁ h tk oI hv rq1 hoI F1 N1
      walk_at "open"
      obtain ⟨push, pn2, hpu, x1, rfl⟩ := rq1
      obtain ⟨⟨rk, ho⟩, hpi, a, t, u, rfl, hat⟩ := hps2.2 i v hv
      walk_at "shut"
      have N2 : News g' L' h ((a, tup2 rk ho t u) :: (I, oI) :: (k.own w.params 1 tl push pn2 0 tp ++ rst)) := news_sub N1 fun p hp => by
        rcases List.mem_cons.mp hp with rfl | hp
        · exact List.mem_cons_of_mem _ (List.mem_append_right _ (htr _ hat))
        · exact hp
      have F2 := fr1 F1 (a := Str.ofString "line") x1
      clear F1
      have hho : 0 ≤ ho ∧ ho < hosts := by
        have h1 : (rk, ho) ∈ ps := hpp.mem_iff.mp (List.mem_of_getElem? hpi)
        have h2 : ho ∈ ps.map (·.2) := List.mem_map_of_mem (f := fun x : Int × Int => x.2) h1
        rw [hpm] at h2
        walk_at "open"
        obtain ⟨t2, _, rfl⟩ := List.mem_map.mp h2
        walk_at "shut"
        have := Nat.mod_lt t2 (show 0 < hosts by lia)
        exact ⟨by lia, by lia⟩
      have hh20 : (hosts : Int) ≤ 9 := by lia
      have hho0 := hho.1
      have hho1 := hho.2
      refine (let X : Led := k.own w.params 1 tl push pn2 0 tp ++ rst; have N2 : News g' L' _ (_ :: _ :: X) := N2; ?_)
      (try walk_at "fold")
      (try refine (let m : Str → Option Value := _; have F' : Fr _ _ _ m := ‹Fr _ _ _ _›; ?_))
      k_steps
      refine go_ ?_
      rename News _ _ _ _ => N9
      rename Fr _ _ _ _ => F9
      have hl3 : push.length ≤ 100 := by
        rw [strs_len hpu, List.length_map, List.length_map, List.length_take, hpp.length_eq, ← hps.1]
        lia
      have hap3 : ∀ q ∈ rst ++ [(I, oI)], q.1 ∉ (k.own w.params 1 tl push pn2 0 tp).map (·.1) := fun q hq => by
        rcases List.mem_append.mp hq with hq | hq
        · exact hrst q hq _ _
        · rw [List.mem_singleton.mp hq]; exact own_off hoI
      refine wpAny_call ?_
      refine c_push (push := push) (pn := pn2) (line := 1) (tl := tl) (pos := 0) (tp := tp) (v := ⟨#[nameOf ho]⟩) rfl ⟨B', F9, X', T', rfl, (room hd (by decide) : dp + 1 + 3 < recursionLimit), (room hu (by decide) : un + 3 + 20 < cLine)⟩ (rest := rst ++ [(I, oI)]) (news_back (a := [(I, oI)]) N9) hap3 hk hl3 (fun pn4 h4 tk4 F6 N6 => ?_)
      (try walk_at "red")
      (try walk_at "fold")
      (try refine (let m : Str → Option Value := _; have F' : Fr _ _ _ m := ‹Fr _ _ _ _›; ?_))
      k_steps
      refine stepP_next (by k_asm) (news_fore (a := [(I, oI)]) N6) (ne_keys (l := k.own w.params 1 tl push pn2 0 tp ++ rst) rfl hoI) ⟨push ++ [Value.str ⟨#[nameOf ho]⟩ _], pn4, ?_, rfl, rfl⟩
      rw [List.take_succ, hpi, Option.toList_some, List.map_append, List.map_append]
      exact strs_snoc hpu
    · rintro h tk m₁ n₁ rq1 F1 N1
      walk_at "open"
      obtain ⟨push, pn2, hpu, x1, rfl⟩ := rq1
      walk_at "shut"
      have F2 := fr1 F1 (a := Str.ofString "line") x1
      clear F1
      rw [List.take_of_length_le (by rw [hpp.length_eq, ← hps.1]; lia)] at hpu
      walk_at "open"
      obtain ⟨names, hnm⟩ : ∃ names, names = ps2.map fun p => nameOf p.2 := ⟨_, rfl⟩
      walk_at "shut"
      rw [← hnm] at hpu
      have hnp : names.Perm ((List.range (b * hosts)).map fun t => 65 + t % hosts) := by
        rw [hnm]
        refine (hpp.map _).trans ?_
        have e1 : ps.map (fun p => nameOf p.2) = (ps.map (·.2)).map nameOf := by rw [List.map_map]; rfl
        rw [e1, hpm, List.map_map]
        refine List.Perm.of_eq (List.map_congr_left fun t _ => ?_)
        show nameOf ((t % hosts : Nat) : Int) = _
        unfold nameOf
        lia
      dsimp only [rst] at N1
      have N2 : News g' L' h ((L' + 1 + 1 + 1, o1) :: (L' + 1 + 1, o2) :: (L' + 1, o3) :: (k.own w.params 1 tl push pn2 0 tp ++ TL)) := news_blk [[_], [_], [_], [_], [_], [_], [_], [_], [_], [_], [_], [_], [_], _, _] [10, 11, 12, 0, 1, 2, 3, 4, 5, 6, 7, 8, 14] N1
      clear N1 hrst hD2r htr hps2 htu hps hpm hpp hnm x1
      (try walk_at "fold")
      (try refine (let m : Str → Option Value := _; have F' : Fr _ _ _ m := ‹Fr _ _ _ _›; ?_))
      k_steps
      refine go_ ?_
      refine LCg.CompSrc.range (by rfl) (by k_asm) (by k_asm) (by assumption) (range_ok (by lia)).1 (n := hosts) (range_ok (by lia)).2 (by rw [sizeLine_eq]; lia) ?_
      intro g9
      refine comp_all (JA _) hosts ?_ ?_ (Nat.zero_add _) ⟨Has.refl _, .nil⟩
      · rintro j ys nw v I2 oI2 C oC D m₃ h5 tk5 E5 hj rq1 rq2 hC hx F7 N7 off ne
        walk_at "open"
        obtain ⟨t9, rfl⟩ := rq1
        obtain ⟨hH, hys⟩ := rq2
        walk_at "shut"
        replace off := has_off hH off
        replace N7 := has_news hH N7
        clear hH
        have hc0 : 0 ≤ 65 + (0 + (j : Int)) := by lia
        have hc1 : 65 + (0 + (j : Int)) ≤ 1114111 := by lia
        (try walk_at "red")
        (try walk_at "fold")
        (try refine (let m : Str → Option Value := _; have F' : Fr _ _ _ m := ‹Fr _ _ _ _›; ?_))
        k_steps
        refine go_ ?_
        refine LCg.CompEnd.intro (by k_asm) (by k_asm) _ (fun _ h => h) off trivial (JA.snoc hys (Has.refl _))
      · rintro ys nw rq1
        walk_at "open"
        obtain ⟨hH, hys⟩ := rq1
        walk_at "shut"
        unfold LCg.FinA
        intro D9 h9 tk9 F9 N9 o9
        replace N9 := has_news1 hH N9
        have hD9c : ∀ q ∈ ([(L' + 1 + 1 + 1, o1), (L' + 1 + 1, o2), (L' + 1, o3)] ++ TL : Led), q.1 ≠ D9 := fun q hq => off1_mem o9 q (hH q (sub_ends hq))
        have hD9 : ∀ q ∈ k.own w.params 1 tl push pn2 0 tp ++ TL, q.1 ≠ D9 := fun q hq => off1_mem o9 q (hH q (List.mem_cons_of_mem _ (List.mem_cons_of_mem _ (List.mem_cons_of_mem _ hq))))
        clear hH o9
        (try walk_at "red")
        (try walk_at "fold")
        (try refine (let m : Str → Option Value := _; have F' : Fr _ _ _ m := ‹Fr _ _ _ _›; ?_))
        k_steps
        refine go_ ?_
        rename_i OL _ _ _ l1O _ _ SL _ l1S _ _ _ _ _ _ _ _ _ _ hr' F10 N10 _
        have hOpl : @LT.lt Nat _ k.pl OL := allLt_mem l1O.2.2.2.2 (k.pl, W.listOf push.toArray pn2) (List.mem_append_left _ (List.mem_cons_self ..))
        have hOS : @LT.lt Nat _ OL SL := l1S.1
        have hLO : @LT.lt Nat _ (L' + 1 + 1 + 1) OL := Nat.lt_trans hcl (Nat.lt_trans (k_ctpl hk) hOpl)
        have hLS := Nat.lt_trans hLO hOS
        have hDO : @Ne Nat D9 OL := by (have z := l1O.1); lia
        have hDS : @Ne Nat D9 SL := by (have z := l1S.2.1); lia
        clear l1O l1S
        refine it_range rfl (JFo w.params k tl tp b hosts [(L' + 1 + 1 + 1, o1), (L' + 1 + 1, o2), (L' + 1, o3)] TL OL SL) hr' (range_ok (n := b) (by have := hb.ok; lia)).1 (n := b) (range_ok (by have := hb.ok; lia)).2 F10 (news := (D9, LCg.lst ys) :: (SL, W.listOf #[] 0) :: (OL, W.listOf #[] 0) :: ([(L' + 1 + 1 + 1, o1), (L' + 1 + 1, o2), (L' + 1, o3)] ++ (k.own w.params 1 tl push pn2 0 tp ++ (TL ++ [])))) (news_start N10)
          ⟨names, hostsL hosts, [], [], 0, push, ys, [], [], pn2, _, 0, 0, D9, _, [], AInv.first hb hnp, hpu, hys, .nil, ⟨rfl, (fun i v h => nomatch h)⟩, (fun _ h => nomatch h), ⟨own_off hD9, hDO, hDS, hD9c⟩, rfl, rfl, rfl, rfl, rfl, rfl⟩ ?_ ?_
        · rintro I i t₀ m₂ n₂ h tk oI hi rq1 hoI F1 N1
          walk_at "open"
          obtain ⟨line, active, offs, sts, seated, push, pa, vO, vS, pn, na, nO, nS, AL, ta, offled, hA, hpu, hpa, hvS, hvO, hof, ⟨hAL, hAO, hAS, hAc⟩, x1, x2, x3, x4, x5, rfl⟩ := rq1
          walk_at "shut"
          have F2 := fr1 (fr1 (fr1 (fr1 (fr1 F1 (a := Str.ofString "seated") ((if_neg (by decide +kernel)).trans x5)) (a := Str.ofString "seats") ((if_neg (by decide +kernel)).trans x4)) (a := Str.ofString "offers") ((if_neg (by decide +kernel)).trans x3)) (a := Str.ofString "active") ((if_neg (by decide +kernel)).trans x2)) (a := Str.ofString "line") ((if_neg (by decide +kernel)).trans x1)
          clear F1 x1 x2 x3 x4 x5
          have hal := alen_ok hb hi
          have hpal : pa.length = alen hosts b i := by rw [strs_len hpa, List.length_map, hA.len]
          have hpa1 : pa.length ≤ 1000 := by lia
          have hBp := bits_nat hpa1
          have hpa2 : pa.toArray.size ≤ 1000 := by rw [List.size_toArray]; lia
          have hb1 : (b : Int) + 1 ≠ 0 := by lia
          have hb2 : (b : Int) ≤ 2 := by have := hb.ok; lia
          have hb3 : 1 ≤ (b : Int) := by have := hb.ok; lia
          have hpa9 : (pa.length : Int) ≤ 9 := by lia
          dsimp only [List.cons_append, List.nil_append] at N1
          refine (let X : Led := k.own w.params 1 tl push pn 0 tp ++ (TL ++ offled); have N1 : News g' L' _ (_ :: _ :: _ :: _ :: _ :: _ :: _ :: X) := N1; ?_)
          (try walk_at "fold")
          (try refine (let m : Str → Option Value := _; have F' : Fr _ _ _ m := ‹Fr _ _ _ _›; ?_))
          k_steps
          refine go_ ?_
          (k_dflt (refine len_led (by k_asm) (by k_mem) (by assumption) ?_); intro _ _)
          k_steps
          refine go_ ?_
          rename_i OF cO _ l1O _ _ CH _ l1C _ _ _ _ _ _ _ _ hr' F10 N10 _
          have hplX : (k.pl, W.listOf push.toArray pn) ∈ X := by exact List.mem_append_left _ (List.mem_cons_self ..)
          have hXl : ∀ q ∈ X, @LT.lt Nat _ q.1 OF := allLt_mem l1O.2.2.2.2.2.2.2
          have hFpl : @LT.lt Nat _ k.pl OF := hXl _ hplX
          have hSF : @LT.lt Nat _ SL OF := l1O.2.2.1
          have hFC : @LT.lt Nat _ OF CH := l1C.1
          have hLF := Nat.lt_trans hLS hSF
          have hLC := Nat.lt_trans hLF hFC
          have hIF : @LT.lt Nat _ I OF := l1O.1
          have hof1 : ∀ q ∈ offled, @LT.lt Nat _ SL q.1 ∧ q.1 ≠ OF ∧ q.1 ≠ CH ∧ q.1 ≠ I := fun q hq => by
            have z : @LT.lt Nat _ q.1 OF := hXl q (by exact List.mem_append_right _ (List.mem_append_right _ hq))
            exact ⟨(hof q hq).1, Nat.ne_of_lt z, Nat.ne_of_lt (Nat.lt_trans z hFC), hoI q (by simp [hq])⟩
          have hIO : @Ne Nat OL I := hoI (OL, W.listOf vO.toArray nO) (List.mem_cons_of_mem _ (List.mem_cons_of_mem _ (List.mem_cons_self ..)))
          have hIS : @Ne Nat SL I := hoI (SL, W.listOf vS.toArray nS) (List.mem_cons_of_mem _ (List.mem_cons_self ..))
          have hIown : I ∉ (k.own w.params 1 tl [] 0 0 tp).map (·.1) := own_off (line := 1) (pos := 0) (tl := tl) (tp := tp) (ps := push) (pn := pn) (r := TL ++ offled) fun q hq => hoI q (List.mem_cons_of_mem _ (List.mem_cons_of_mem _ (List.mem_cons_of_mem _ (List.mem_append_right _ hq))))
          clear l1O l1C
          rw [size_eq hpal] at hr' F10
          refine it_range rfl (JLo w.params k tl tp b hosts i [(I, oI), (L' + 1 + 1 + 1, o1), (L' + 1 + 1, o2), (L' + 1, o3)] TL OL SL OF CH I active offs seated vS nS _) hr' (range_ok (n := alen hosts b (i + 1)) (by lia)).1 (n := alen hosts b (i + 1)) (range_ok (by lia)).2 F10 (news := (CH, W.listOf #[] 0) :: (OF, W.listOf pa.toArray cO) :: (SL, W.listOf vS.toArray nS) :: (OL, W.listOf vO.toArray nO) :: ([(I, oI), (L' + 1 + 1 + 1, o1), (L' + 1 + 1, o2), (L' + 1, o3)] ++ (k.own w.params 1 tl push pn 0 tp ++ (TL ++ offled)))) (news_lev N10)
            ⟨line, active, [], offs, seated, push, pa, [], vO, pn, cO, 0, nO, ta, offled, hA.start, hpu, hpa, .nil, hvO, hof1, rfl, rfl, rfl, rfl, rfl, rfl, rfl, rfl⟩ ?_ ?_
          · rintro I2 t t₁ m₃ n₃ h3 tk3 oI2 ht rq1 hoI2 F3 N3
            walk_at "open"
            obtain ⟨line2, offered, chosen, offs2, seated2, push2, po, vC, vO2, pn3, no, nC, nO2, ta2, offled2, hT, hpu2, hpo, hvC, hvO2, hof2, y1, y2, y3, y4, y5, y6, y7, rfl⟩ := rq1
            walk_at "shut"
            have F4 := fr1 (fr1 (fr1 (fr1 (fr1 (fr1 (fr1 F3 (a := Str.ofString "size") ((if_neg (by decide +kernel)).trans y7)) (a := Str.ofString "chosen") ((if_neg (by decide +kernel)).trans y6)) (a := Str.ofString "offered") ((if_neg (by decide +kernel)).trans y5)) (a := Str.ofString "seated") ((if_neg (by decide +kernel)).trans y4)) (a := Str.ofString "seats") ((if_neg (by decide +kernel)).trans y3)) (a := Str.ofString "offers") ((if_neg (by decide +kernel)).trans y2)) (a := Str.ofString "line") ((if_neg (by decide +kernel)).trans y1)
            clear F3 y1 y2 y3 y4 y5 y6 y7
            walk_at "open"
            obtain ⟨c, hfc, hco, hT'⟩ := hT.step hA.nodup (by rw [hA.len]; lia) hi
            walk_at "shut"
            have hol : offered.length + chosen.length = alen hosts b i := by rw [← hA.len, ← hT.perm.length_eq, List.length_append]
            have hpol : po.length ≤ 9 := by rw [strs_len hpo, List.length_map]; lia
            have hpo1 : po.length ≤ 1000 := by lia
            have hpo2 : po.toArray.size ≤ 1000 := by rw [List.size_toArray]; lia
            have hvC1 : vC.length ≤ 1000 := by rw [strs_len hvC, List.length_map]; lia
            have hvO1 : vO2.length ≤ 1000 := by
              walk_at "open"
              obtain ⟨nwo, q1, q2, _⟩ := hT.offs
              walk_at "shut"
              have q3 := hA.sts_len
              rw [hvO2.1, q1, List.length_append, q2, hA.same]
              lia
            have hXO := tail_ne (P := w.params) (tl := tl) (tp := tp) (TL := TL) (offled := offled2) (X := OL) hk hOpl hTLc (fun q hq => Nat.ne_of_gt (Nat.lt_trans hOS (hof2 q hq).1)) push2 pn3
            have hI2O : @Ne Nat OL I2 := hoI2 (OL, W.listOf vO2.toArray nO2) (by k_mem)
            dsimp only [List.cons_append, List.nil_append] at N3
            refine (let X2 : Led := (L' + 1 + 1 + 1, o1) :: (L' + 1 + 1, o2) :: (L' + 1, o3) :: (k.own w.params 1 tl push2 pn3 0 tp ++ (TL ++ offled2)); have N3 : News g' L' _ (_ :: _ :: _ :: _ :: _ :: _ :: X2) := N3; ?_)
            replace hXO : ∀ q ∈ X2, q.1 ≠ OL := fcons (by k_ne) (fcons (by k_ne) (fcons (by k_ne) hXO))
            (try walk_at "fold")
            (try refine (let m : Str → Option Value := _; have F' : Fr _ _ _ m := ‹Fr _ _ _ _›; ?_))
            k_steps
            refine go_ ?_
            rename_i D3 c3 _ l1D _ F11 N11
            have eN : (b : Int) * (hosts : Int) - (seated2 : Int) = ((line2.length : Nat) : Int) := by
              have h1 := hT.tot
              lia
            have hl18 : line2.length ≤ 18 := by have h1 := hT.tot; lia
            have hD3 : @LT.lt Nat _ OF D3 := l1D.2.2.1
            have hD3C : @LT.lt Nat _ CH D3 := l1D.2.1
            have hD3I : @LT.lt Nat _ I2 D3 := l1D.1
            have hI2F : @Ne Nat OF I2 := hoI2 (OF, W.listOf po.toArray no) (by k_mem)
            have hI2C : @Ne Nat CH I2 := hoI2 (CH, W.listOf vC.toArray nC) (by k_mem)
            have hI2own : I2 ∉ (k.own w.params 1 tl push2 pn3 0 tp).map (·.1) := own_off (line := 1) (pos := 0) (tl := tl) (tp := tp) (ps := push2) (pn := pn3) (r := TL ++ offled2) fun q hq => hoI2 q (List.mem_cons_of_mem _ (List.mem_cons_of_mem _ (List.mem_cons_of_mem _ (List.mem_cons_of_mem _ (List.mem_append_right _ hq)))))
            clear l1D hXO
            rw [eN]
            rw [List.push_toArray] at N11
            have hapF : ∀ q ∈ ([(D3, W.listOf po.toArray c3), (I2, oI2), (CH, W.listOf vC.toArray nC), (SL, W.listOf vS.toArray nS), (OL, W.listOf (vO2 ++ [Value.ref D3]).toArray (nO2 + 1)), (I, oI), (L' + 1 + 1 + 1, o1), (L' + 1 + 1, o2), (L' + 1, o3)] ++ (TL ++ offled2) : Led), q.1 ∉ ((OF, W.listOf po.toArray no) :: k.own w.params 1 tl push2 pn3 0 tp : Led).map (·.1) := by
              have hcF : @LT.lt Nat _ k.ct OF := Nat.lt_trans (k_ctpl hk) hFpl
              have hc1 := Nat.lt_of_succ_lt hcl
              have hc0 := Nat.lt_of_succ_lt hc1
              exact fapp (fcons (nin_c (Nat.ne_of_gt hD3) (own_above hk (Nat.lt_trans hFpl hD3))) (fcons (nin_c (Ne.symm hI2F) hI2own) (fcons (nin_c (Nat.ne_of_gt hFC) (own_above hk (Nat.lt_trans hFpl hFC))) (fcons (nin_c (Nat.ne_of_lt hSF) (own_above hk (Nat.lt_trans hOpl hOS)))
                (fcons (nin_c (Nat.ne_of_lt (Nat.lt_trans hOS hSF)) (own_above hk hOpl)) (fcons (nin_c (Nat.ne_of_lt hIF) hIown) (fcons (nin_c (Nat.ne_of_lt (Nat.lt_trans hcl hcF)) (own_below hk hcl)) (fcons (nin_c (Nat.ne_of_lt (Nat.lt_trans hc1 hcF)) (own_below hk hc1)) (fcons (nin_c (Nat.ne_of_lt (Nat.lt_trans hc0 hcF)) (own_below hk hc0)) fnil)))))))))
                (fapp (fun q hq => nin_c (Nat.ne_of_lt (Nat.lt_trans (hTLc q hq) hcF)) (own_below hk (hTLc q hq))) (fun q hq => nin_c (hof2 q hq).2.1 (own_above hk (Nat.lt_trans (Nat.lt_trans hOpl hOS) (hof2 q hq).1))))
            refine wpAny_call ?_
            refine c_first (k := k) (line := 1) (tl := tl) (ps := push2) (pn := pn3) (pos := 0) (tp := tp) (names := line2) (offs := offered) (os := po) (n0 := no) (O := OF) rfl ⟨B', F11, X', T', rfl, (room hd (by decide) : dp + 1 + 16 < recursionLimit), (room hu (by decide) : un + 3 + 100 < cLine)⟩ (rest := [(D3, W.listOf po.toArray c3), (I2, oI2), (CH, W.listOf vC.toArray nC), (SL, W.listOf vS.toArray nS), (OL, W.listOf (vO2 ++ [Value.ref D3]).toArray (nO2 + 1)), (I, oI), (L' + 1 + 1 + 1, o1), (L' + 1 + 1, o2), (L' + 1, o3)] ++ (TL ++ offled2)) (news_turnF N11) hapF hk hpu2 hpo hl18 (by lia) (own_above hk hFpl) (fun ps4 pn4 tt h4 tk4 hps4 F12 N12 => ?_)
            replace N12 := news_turnB N12
            have hXF := tail_ne (P := w.params) (tl := tl) (tp := tp) (TL := TL) (offled := offled2) (X := OF) hk hFpl hTLc (fun q hq => (hof2 q hq).2.1) ps4 pn4
            have hXC := tail_ne (P := w.params) (tl := tl) (tp := tp) (TL := TL) (offled := offled2) (X := CH) hk (Nat.lt_trans hFpl hFC) hTLc (fun q hq => (hof2 q hq).2.2.1) ps4 pn4
            refine (let X4 : Led := (L' + 1 + 1 + 1, o1) :: (L' + 1 + 1, o2) :: (L' + 1, o3) :: (k.own w.params 1 tl ps4 pn4 0 tp ++ (TL ++ offled2)); have N12 : News g' L' _ (_ :: _ :: _ :: _ :: _ :: _ :: _ :: X4) := N12; ?_)
            replace hXF : ∀ q ∈ X4, q.1 ≠ OF := fcons (by k_ne) (fcons (by k_ne) (fcons (by k_ne) hXF))
            replace hXC : ∀ q ∈ X4, q.1 ≠ CH := fcons (by k_ne) (fcons (by k_ne) (fcons (by k_ne) hXC))
            rw [hfc, show taken (some c) = (⟨#[c]⟩ : Str) from rfl]
            have hin := one_ne c
            have hin2 : ((⟨#[c]⟩ : Str) != Str.ofString "") = true := by rw [bne, hin]; rfl
            clear N11 hapF
            (try walk_at "red")
            (try walk_at "fold")
            (try refine (let m : Str → Option Value := _; have F' : Fr _ _ _ m := ‹Fr _ _ _ _›; ?_))
            have hM : Halt "call builtin:list.remove" := trivial
            k_steps
            refine go_ ?_
            clear hM
            (k_dflt (refine' lst_remove ?zqF ?zqN ?zqU ?zqs ?zqc ?zqz ?_; (case zqF => k_asm); (case zqN => k_asm); (case zqU => k_updF); (case zqs => assumption); (case zqc => assumption); (case zqz => assumption)); intro zh zws zhw zF zN; (try dsimp only at zN))
            k_steps
            rename News _ _ _ _ => N13
            rename Fr _ _ _ _ => F13
            rename StrsAre _ _ => hws
            rw [List.push_toArray] at N13
            refine' stepP_next F13 (news_turnE N13) (off_turn (a := (CH, W.listOf vC.toArray nC)) (b := (OF, W.listOf po.toArray no)) (d := (OL, W.listOf vO2.toArray nO2)) (own := k.own w.params 1 tl push2 pn3 0 tp) rfl rfl rfl rfl hoI2 (Nat.ne_of_gt hD3I)) ⟨lineAfter line2 offered, offered.erase c, chosen ++ [c], offs2 ++ [offered], seated2 + 1, ps4, _, vC ++ [Value.str ⟨#[c]⟩ tt], vO2 ++ [Value.ref D3], pn4, no + 1, nC + 1, nO2 + 1, ?tt9, (D3, W.listOf po.toArray c3) :: offled2, hT', hps4, hws, ?v1, hvO2.snoc hpo, ?v2, rfl, rfl, rfl, ?v3, rfl, rfl, rfl, rfl⟩
            case v1 => rw [List.map_append]; exact strs_snoc hvC
            case v2 =>
              intro q hq
              rcases List.mem_cons.mp hq with rfl | hq
              · exact ⟨Nat.lt_trans hSF hD3, Nat.ne_of_gt hD3, Nat.ne_of_gt hD3C, Nat.ne_of_gt (Nat.lt_trans hIF hD3)⟩
              · exact hof2 q hq
            case v3 =>
              refine (if_pos rfl).trans (tok_int (by lia) ?_)
              rfl
          · rintro h3 tk3 m₃ n₃ rq1 F3 N3
            walk_at "open"
            obtain ⟨line2, offered, chosen, offs2, seated2, push2, po, vC, vO2, pn3, no, nC, nO2, ta2, offled2, hT, hpu2, hpo, hvC, hvO2, hof2, y1, y2, y3, y4, y5, y6, y7, rfl⟩ := rq1
            walk_at "shut"
            have F4 := fr1 (fr1 (fr1 (fr1 (fr1 (fr1 (fr1 F3 (a := Str.ofString "size") y7) (a := Str.ofString "chosen") y6) (a := Str.ofString "offered") y5) (a := Str.ofString "seated") y4) (a := Str.ofString "seats") y3) (a := Str.ofString "offers") y2) (a := Str.ofString "line") y1
            clear F3 y1 y2 y3 y4 y5 y6 y7
            have hA' := hA.next hT hi hal.1
            have hol : offered.length + chosen.length = alen hosts b i := by rw [← hA.len, ← hT.perm.length_eq, List.length_append]
            have hpol : po.length ≤ 9 := by rw [strs_len hpo, List.length_map]; lia
            have hpo1 : po.length ≤ 1000 := by lia
            have hvC0 : vC.length = alen hosts b (i + 1) := by rw [strs_len hvC, List.length_map, hT.clen]
            have hvC1 : vC.length ≤ 1000 := by lia
            have hlk : ((alen hosts b (i + 1) : Nat) : Int) - (vC.length : Int) = 0 := by lia
            dsimp only [List.cons_append, List.nil_append] at N3
            refine (let X2 : Led := (L' + 1 + 1 + 1, o1) :: (L' + 1 + 1, o2) :: (L' + 1, o3) :: (k.own w.params 1 tl push2 pn3 0 tp ++ (TL ++ offled2)); have N3 : News g' L' _ (_ :: _ :: _ :: _ :: _ :: X2) := N3; ?_)
            (try walk_at "fold")
            (try refine (let m : Str → Option Value := _; have F' : Fr _ _ _ m := ‹Fr _ _ _ _›; ?_))
            have hM : Halt "subscriptTail Name Slice ref ref" := trivial
            have lM : Halt "eval ListComp" := trivial
            repeat' (first | (k_unfold; (try dsimp only)) | (k_end; wrow_close) | walk1 | (dsimp only; walk1) | (leave1; walk_say "STEP leave1"; try dsimp only) | fail "no step")
            refine go_ ?_
            (k_dflt (refine len_led (by k_asm) (by k_mem) (by assumption) ?_); intro _ _)
            repeat' (first | (k_unfold; (try dsimp only)) | (k_end; wrow_close) | walk1 | (dsimp only; walk1) | (leave1; walk_say "STEP leave1"; try dsimp only) | fail "no step")
            refine go_ ?_
            clear lM
            k_dflt (refine ListComp_2 (F₀ := by k_asm) (by with_unfolding_all rfl) (by decide) (by rfl) (by decide) (by rfl) (by rfl) (by decide +kernel) ?_ (fun _ => rfl) (fun _ _ => rfl))
            repeat' (first | (k_unfold; (try dsimp only)) | (k_end; wrow_close) | walk1 | (dsimp only; walk1) | (leave1; walk_say "STEP leave1"; try dsimp only) | fail "no step")
            refine go_ ?_
            clear hM
            ((with_reducible show wpAny _ _ (subscriptTail _ (PySem.Expr.Slice _ _ none _) (Value.ref _) (Value.ref _)) _ _ _); k_dflt (first | (refine' kms_slice_lit ?zqF ?zqN ?zql ?zqp ?zqq (pick_lo ?zqhx) ?_ ?zqs ?zqt ?zqz; (case zqF => k_asm); (case zqN => k_asm); (case zql => kmk_list); (case zqp => kmk_part); (case zqq => kmk_part); (case zqhx => assumption); (case zqs => with_unfolding_all rfl); (case zqt => kmk_pure); (case zqz => kmk_size)) | (refine' kms_slice_lit ?zqF ?zqN ?zql ?zqp ?zqq (pick_hi ?zqhx) ?_ ?zqs ?zqt ?zqz; (case zqF => k_asm); (case zqN => k_asm); (case zql => kmk_list); (case zqp => kmk_part); (case zqq => kmk_part); (case zqhx => assumption); (case zqs => with_unfolding_all rfl); (case zqt => kmk_pure); (case zqz => kmk_size))); intro zD zh2 zF2 zN2 zl; (try k_lt zl))
            repeat' (first | (k_unfold; (try dsimp only)) | (k_end; wrow_close) | walk1 | (dsimp only; walk1) | (leave1; walk_say "STEP leave1"; try dsimp only) | fail "no step")
            refine go_ ?_
            refine Src2.ledger (by rfl) (by k_asm) (by k_asm) (by k_mem) ?_
            intro g9
            refine body_rep b offered ?_ (rest2 ?_ ?_ ?_ ?_)
            · simp only [List.size_toArray, Array.length_toList]
              have hb2' := hb.ok.2.1
              exact Nat.le_trans (Nat.mul_le_mul (show po.length ≤ 9 by lia) hb2') (by decide)
            · rintro I3 i3 v ys nw oI3 C oC D m₄ h6 tk6 E6 hi3 hv rq1 hC hx F6 N6 off6 ne6
              walk_at "open"
              obtain ⟨hH, hys⟩ := rq1
              walk_at "shut"
              replace off6 := has_off hH off6
              replace N6 := has_news hH N6
              clear hH
              (try walk_at "red")
              (try walk_at "fold")
              (try refine (let m : Str → Option Value := _; have F' : Fr _ _ _ m := ‹Fr _ _ _ _›; ?_))
              k_steps
              refine go_ ?_
              refine Open2.intro (by assumption) (range_ok (by have := hb.ok; lia)).1 (range_ok (by have := hb.ok; lia)).2 (by k_asm) (by k_asm) _ (fun _ h => h) off6 (.inr ⟨_, by k_mem, rfl, _, rfl⟩) ⟨Has.refl _, by rw [List.replicate_zero, List.append_nil]; exact hys⟩
            · rintro I3 i3 j3 v t3 ys nw I4 oI4 oI3 C oC D m₄ h6 tk6 E6 hi3 hj3 hv rq1 hC hx1 hx2 F6 N6 off6
              walk_at "open"
              obtain ⟨hH, hys⟩ := rq1
              obtain ⟨tv, rfl, hil⟩ := strs_getD hpo (by simpa using hv)
              walk_at "shut"
              replace off6 := has_offA hH off6
              replace N6 := has_news4 hH N6
              clear hH
              refine wpAny_tests_nil ?_
              simp only [if_true]
              (try walk_at "fold")
              (try refine (let m : Str → Option Value := _; have F' : Fr _ _ _ m := ‹Fr _ _ _ _›; ?_))
              k_steps
              refine go_ ?_
              refine End2.intro (by k_asm) (by k_asm) _ (fun _ h => h) off6 (.inr ⟨_, by k_mem, rfl, _, rfl⟩) (JR.step ⟨Has.refl _, hys⟩ rfl (Has.refl _))
            · intro i3 ys nw hi3 hJ
              refine JR.close ?_ hJ
              have e1 : po.length = offered.length := by rw [strs_len hpo, List.length_map]
              simp only [List.size_toArray, Array.length_toList] at hi3
              lia
            · rintro ys nw rq1
              walk_at "open"
              obtain ⟨hH, hys⟩ := rq1
              walk_at "shut"
              rw [List.take_of_length_le (by simp only [List.size_toArray, Array.length_toList]; have e1 : po.length = offered.length := by rw [strs_len hpo, List.length_map]
                                             lia)] at hys
              unfold LCg.FinE
              intro D9 h9 tk9 F9 N9 o9
              have hD9S : @Ne Nat SL D9 := off1_mem o9 (SL, _) (hH _ (by k_mem))
              replace N9 := has_news1 hH N9
              clear hH o9
              have hXS : ∀ q ∈ X2, q.1 ≠ SL := by
                exact fcons (by k_ne) (fcons (by k_ne) (fcons (by k_ne) (tail_ne (P := w.params) (tl := tl) (tp := tp) (TL := TL) (offled := offled2) (X := SL) hk (Nat.lt_trans hOpl hOS) hTLc (fun q hq => Nat.ne_of_gt (hof2 q hq).1) push2 pn3)))
              have hvS9 : vS.length ≤ 100 := by rw [strs_len hvS, List.length_map]; have q3 := hA.sts_len; lia
              have e1 : po.length = offered.length := by rw [strs_len hpo, List.length_map]
              have hb2' := hb.ok.2.1
              have hys8 : ys.length = b * offered.length := by rw [strs_len hys, List.length_map, repb_len]
              have hys9 : ys.length ≤ 100 := by
                rw [hys8]
                exact Nat.le_trans (Nat.mul_le_mul hb2' (show offered.length ≤ 9 by lia)) (by decide)
              clear e1 hb2' hys8
              have hext : vS.length + ys.length ≤ 1000 := by lia
              have hadd : vC.length + ([] : List Value).length ≤ 1000 := by simpa using hvC1
              (try walk_at "red")
              (try walk_at "fold")
              (try refine (let m : Str → Option Value := _; have F' : Fr _ _ _ m := ‹Fr _ _ _ _›; ?_))
              have hM : Halt "subscriptTail Name Slice ref ref" := trivial
              have hM2 : Halt "call builtin:list.extend" := trivial
              have hM3 : Halt "binaryOp Add ref ref" := trivial
              repeat' (first | (k_unfold; (try dsimp only)) | (k_end; wrow_close) | walk1 | (dsimp only; walk1) | (leave1; walk_say "STEP leave1"; try dsimp only) | fail "no step")
              refine go_ ?_
              clear hM2
              (k_dflt (refine' lst_extend ?zqF ?zqN ?zqU ?zqb ?zqz ?_; (case zqF => k_asm); (case zqN => k_asm); (case zqU => k_updF); (case zqb => k_mem); (case zqz => assumption)); intro zh3 zn3 zF3 zN3; (try dsimp only at zN3))
              repeat' (first | (k_unfold; (try dsimp only)) | (k_end; wrow_close) | walk1 | (dsimp only; walk1) | (leave1; walk_say "STEP leave1"; try dsimp only) | fail "no step")
              refine go_ ?_
              clear hM
              ((with_reducible show wpAny _ _ (subscriptTail _ (PySem.Expr.Slice _ _ none _) (Value.ref _) (Value.ref _)) _ _ _); k_dflt (first | (refine' kms_slice_lit ?zqF ?zqN ?zql ?zqp ?zqq (pick_lo ?zqhx) ?_ ?zqs ?zqt ?zqz; (case zqF => k_asm); (case zqN => k_asm); (case zql => kmk_list); (case zqp => kmk_part); (case zqq => kmk_part); (case zqhx => assumption); (case zqs => with_unfolding_all rfl); (case zqt => kmk_pure); (case zqz => kmk_size)) | (refine' kms_slice_lit ?zqF ?zqN ?zql ?zqp ?zqq (pick_hi ?zqhx) ?_ ?zqs ?zqt ?zqz; (case zqF => k_asm); (case zqN => k_asm); (case zql => kmk_list); (case zqp => kmk_part); (case zqq => kmk_part); (case zqhx => assumption); (case zqs => with_unfolding_all rfl); (case zqt => kmk_pure); (case zqz => kmk_size))); intro zD4 zh4 zF4 zN4 zl4; (try k_lt zl4))
              repeat' (first | (k_unfold; (try dsimp only)) | (k_end; wrow_close) | walk1 | (dsimp only; walk1) | (leave1; walk_say "STEP leave1"; try dsimp only) | fail "no step")
              refine go_ ?_
              clear hM3
              (k_dflt (refine' lst_add ?zqF ?zqN ?zqa ?zqb ?zqz ?_; (case zqF => k_asm); (case zqN => k_asm); (case zqa => k_mem); (case zqb => k_mem); (case zqz => assumption)); intro AL2 zh5 zF5 zN5 l1A; (try k_lt l1A))
              repeat' (first | (k_unfold; (try dsimp only)) | (k_end; wrow_close) | walk1 | (dsimp only; walk1) | (leave1; walk_say "STEP leave1"; try dsimp only) | fail "no step")
              rename_i _ F14 N14
              have hASL : @LT.lt Nat _ SL AL2 := l1A.2.2.2.2.2.1
              have hAOL : @LT.lt Nat _ OL AL2 := l1A.2.2.2.2.2.2.1
              have hAI : @LT.lt Nat _ I AL2 := l1A.2.2.2.2.2.2.2.1
              have hAX : ∀ q ∈ offled2, q.1 ≠ AL2 := fun q hq => Nat.ne_of_lt (allLt_mem l1A.2.2.2.2.2.2.2.2.2.2.2 q (show q ∈ k.own w.params 1 tl push2 pn3 0 tp ++ (TL ++ offled2) by simp [hq]))
              have hALc : ∀ q ∈ ([(L' + 1 + 1 + 1, o1), (L' + 1 + 1, o2), (L' + 1, o3)] ++ TL : Led), q.1 ≠ AL2 := fun q hq =>
                Nat.ne_of_lt (Nat.lt_trans (fapp (P := fun p : Addr × Obj => @LT.lt Nat _ p.1 k.ct) (l := [(L' + 1 + 1 + 1, o1), (L' + 1 + 1, o2), (L' + 1, o3)]) (r := TL) (fcons hcl (fcons (Nat.lt_of_succ_lt hcl) (fcons (Nat.lt_of_succ_lt (Nat.lt_of_succ_lt hcl)) fnil))) hTLc q hq) (Nat.lt_trans (k_ctpl hk) (Nat.lt_trans hOpl hAOL)))
              clear l1A
              refine stepP_next F14 (news_levE N14) (off_lev (a := (AL, W.listOf pa.toArray na)) (b := (SL, W.listOf vS.toArray nS)) (c := (OL, W.listOf vO.toArray nO)) (own := k.own w.params 1 tl push pn 0 tp) (Nat.ne_of_gt hAI) rfl rfl rfl hoI (fun q hq => (hof2 q hq).2.2.2))
                ⟨line2, chosen, offs2, sts ++ repb b offered, seated2, push2, vC ++ [], vO2, vS ++ ys, pn3, 0, nO2, _, AL2, ta2, offled2, hA', hpu2, (by rw [List.append_nil]; exact hvC), (by rw [List.map_append]; exact strs_app hvS hys), hvO2, (fun q hq => ⟨(hof2 q hq).1, hAX q hq⟩), ⟨own_above hk (Nat.lt_trans hOpl hAOL), Nat.ne_of_gt hAOL, Nat.ne_of_gt hASL, hALc⟩, rfl, rfl, rfl, rfl, rfl, rfl⟩
        · rintro h tk m₂ n₂ rq1 F1 N1
          walk_at "open"
          obtain ⟨line, active, offs, sts, seated, push, pa, vO, vS, pn, na, nO, nS, AL, ta, offled, hA, hpu, hpa, hvS, hvO, hof, ⟨hAL, hAO, hAS, hAc⟩, x1, x2, x3, x4, x5, rfl⟩ := rq1
          walk_at "shut"
          clear F10 N10
          have F2 := fr1 (fr1 (fr1 (fr1 (fr1 F1 (a := Str.ofString "seated") x5) (a := Str.ofString "seats") x4) (a := Str.ofString "offers") x3) (a := Str.ofString "active") x2) (a := Str.ofString "line") x1
          clear F1 x1 x2 x3 x4 x5
          have hal9 := alast_ok hb
          have hpal : pa.length = alen hosts b b := by rw [strs_len hpa, List.length_map, hA.len]
          have hpa1 : pa.length ≤ 1000 := by lia
          have hBp := bits_nat hpa1
          dsimp only [List.cons_append, List.nil_append] at N1
          refine (let X : Led := k.own w.params 1 tl push pn 0 tp ++ (TL ++ offled); have N1 : News g' L' _ (_ :: _ :: _ :: _ :: _ :: _ :: X) := N1; ?_)
          (try walk_at "fold")
          (try refine (let m : Str → Option Value := _; have F' : Fr _ _ _ m := ‹Fr _ _ _ _›; ?_))
          k_steps
          refine go_ ?_
          (k_dflt (refine len_led (by k_asm) (by k_mem) (by assumption) ?_); intro _ _)
          k_steps
          refine go_ ?_
          rename Fr _ _ _ _ => F10
          rename News _ _ _ _ => N10
          rename IsRange _ _ _ _ _ _ _ _ => hr'
          have eR : (b : Int) * (pa.length : Int) = ((b * alen hosts b b : Nat) : Int) := by rw [hpal]; simp
          rw [eR] at hr'
          refine it_range rfl (JEo w.params k tl tp [(L' + 1 + 1 + 1, o1), (L' + 1 + 1, o2), (L' + 1, o3)] TL OL SL AL line active offs seated pa vS na nS) hr' (range_ok (n := b * alen hosts b b) (by lia)).1 (n := b * alen hosts b b) (range_ok (by lia)).2 F10 (news := (AL, W.listOf pa.toArray na) :: (SL, W.listOf vS.toArray nS) :: (OL, W.listOf vO.toArray nO) :: ([(L' + 1 + 1 + 1, o1), (L' + 1 + 1, o2), (L' + 1, o3)] ++ (k.own w.params 1 tl push pn 0 tp ++ (TL ++ offled)))) N10
            ⟨push, vO, pn, nO, ta, offled, hpu, (by rw [List.replicate_zero, List.append_nil]; exact hvO), hof, rfl, rfl, rfl, rfl, rfl, rfl⟩ ?_ ?_
          · rintro I2 t t₁ m₃ n₃ h3 tk3 oI2 ht rq1 hoI2 F3 N3
            walk_at "open"
            obtain ⟨push2, vO2, pn3, nO2, ta2, offled2, hpu2, hvO2, hof2, y1, y2, y3, y4, y5, rfl⟩ := rq1
            walk_at "shut"
            have F4 := fr1 (fr1 (fr1 (fr1 (fr1 F3 (a := Str.ofString "seated") ((if_neg (by decide +kernel)).trans y5)) (a := Str.ofString "seats") ((if_neg (by decide +kernel)).trans y4)) (a := Str.ofString "offers") ((if_neg (by decide +kernel)).trans y3)) (a := Str.ofString "active") ((if_neg (by decide +kernel)).trans y2)) (a := Str.ofString "line") ((if_neg (by decide +kernel)).trans y1)
            clear F3 y1 y2 y3 y4 y5
            have hpa2 : pa.toArray.size ≤ 1000 := by rw [List.size_toArray]; lia
            have hvO1 : vO2.length ≤ 1000 := by
              have q3 := hA.sts_len
              rw [hvO2.1, List.length_append, List.length_replicate, hA.same]
              lia
            have hXO := tail_ne (P := w.params) (tl := tl) (tp := tp) (TL := TL) (offled := offled2) (X := OL) hk hOpl hTLc (fun q hq => Nat.ne_of_gt (Nat.lt_trans hOS (hof2 q hq).1)) push2 pn3
            have hI2O : @Ne Nat OL I2 := hoI2 (OL, W.listOf vO2.toArray nO2) (by k_mem)
            have hI2A : @Ne Nat AL I2 := hoI2 (AL, W.listOf pa.toArray na) (by k_mem)
            have hI2own : I2 ∉ (k.own w.params 1 tl push2 pn3 0 tp).map (·.1) := own_off (line := 1) (pos := 0) (tl := tl) (tp := tp) (ps := push2) (pn := pn3) (r := TL ++ offled2) fun q hq => hoI2 q (List.mem_cons_of_mem _ (List.mem_cons_of_mem _ (List.mem_cons_of_mem _ (List.mem_append_right _ hq))))
            have hofI : ∀ q ∈ offled2, q.1 ≠ I2 := fun q hq => hoI2 q (by simp [hq])
            dsimp only [List.cons_append, List.nil_append] at N3
            refine (let X2 : Led := (L' + 1 + 1 + 1, o1) :: (L' + 1 + 1, o2) :: (L' + 1, o3) :: (k.own w.params 1 tl push2 pn3 0 tp ++ (TL ++ offled2)); have N3 : News g' L' _ (_ :: _ :: _ :: _ :: X2) := N3; ?_)
            replace hXO : ∀ q ∈ X2, q.1 ≠ OL := fcons (by k_ne) (fcons (by k_ne) (fcons (by k_ne) hXO))
            (try walk_at "fold")
            (try refine (let m : Str → Option Value := _; have F' : Fr _ _ _ m := ‹Fr _ _ _ _›; ?_))
            k_steps
            refine go_ ?_
            rename_i D3 c3 _ l1D _ F11 N11
            have eN : (b : Int) * (hosts : Int) - (seated : Int) = ((line.length : Nat) : Int) := by
              have h1 := hA.tot
              lia
            have hl18 : line.length ≤ 18 := by have h1 := hA.tot; lia
            have hD3A : @LT.lt Nat _ AL D3 := l1D.2.1
            have hD3S : @LT.lt Nat _ SL D3 := l1D.2.2.1
            have hD3I : @LT.lt Nat _ I2 D3 := l1D.1
            clear l1D hXO
            rw [eN]
            rw [List.push_toArray] at N11
            have hapF : ∀ q ∈ ([(D3, W.listOf pa.toArray c3), (I2, oI2), (SL, W.listOf vS.toArray nS), (OL, W.listOf (vO2 ++ [Value.ref D3]).toArray (nO2 + 1)), (L' + 1 + 1 + 1, o1), (L' + 1 + 1, o2), (L' + 1, o3)] ++ (TL ++ offled2) : Led), q.1 ∉ ((AL, W.listOf pa.toArray na) :: k.own w.params 1 tl push2 pn3 0 tp : Led).map (·.1) := by
              have hc1 := Nat.lt_of_succ_lt hcl
              have hc0 := Nat.lt_of_succ_lt hc1
              exact fapp (fcons (nin_c (Nat.ne_of_gt hD3A) (own_above hk (Nat.lt_trans (Nat.lt_trans hOpl hOS) hD3S))) (fcons (nin_c (Ne.symm hI2A) hI2own) (fcons (nin_c (Ne.symm hAS) (own_above hk (Nat.lt_trans hOpl hOS))) (fcons (nin_c (Ne.symm hAO) (own_above hk hOpl))
                (fcons (nin_c (hAc (L' + 1 + 1 + 1, o1) (.head _)) (own_below hk hcl)) (fcons (nin_c (hAc (L' + 1 + 1, o2) (.tail _ (.head _))) (own_below hk hc1)) (fcons (nin_c (hAc (L' + 1, o3) (.tail _ (.tail _ (.head _)))) (own_below hk hc0)) fnil)))))))
                (fapp (fun q hq => nin_c (hAc q (.tail _ (.tail _ (.tail _ hq)))) (own_below hk (hTLc q hq))) (fun q hq => nin_c (hof2 q hq).2 (own_above hk (Nat.lt_trans (Nat.lt_trans hOpl hOS) (hof2 q hq).1))))
            refine wpAny_call ?_
            refine c_first (k := k) (line := 1) (tl := tl) (ps := push2) (pn := pn3) (pos := 0) (tp := tp) (names := line) (offs := active) (os := pa) (n0 := na) (O := AL) rfl ⟨B', F11, X', T', rfl, (room hd (by decide) : dp + 1 + 16 < recursionLimit), (room hu (by decide) : un + 3 + 100 < cLine)⟩ (rest := [(D3, W.listOf pa.toArray c3), (I2, oI2), (SL, W.listOf vS.toArray nS), (OL, W.listOf (vO2 ++ [Value.ref D3]).toArray (nO2 + 1)), (L' + 1 + 1 + 1, o1), (L' + 1 + 1, o2), (L' + 1, o3)] ++ (TL ++ offled2)) (news_endF N11) hapF hk hpu2 hpa hl18 (by rw [hA.len]; lia) hAL (fun ps4 pn4 tt h4 tk4 hps4 F12 N12 => ?_)
            replace N12 := news_endB N12
            rw [hA.last.2] at hps4
            refine (let X4 : Led := (L' + 1 + 1 + 1, o1) :: (L' + 1 + 1, o2) :: (L' + 1, o3) :: (k.own w.params 1 tl ps4 pn4 0 tp ++ (TL ++ offled2)); have N12 : News g' L' _ (_ :: _ :: _ :: _ :: _ :: X4) := N12; ?_)
            rw [hA.last.1, show taken none = Str.ofString "" from rfl]
            clear N11 hapF
            (try walk_at "red")
            (try walk_at "fold")
            (try refine (let m : Str → Option Value := _; have F' : Fr _ _ _ m := ‹Fr _ _ _ _›; ?_))
            k_steps
            rename News _ _ _ _ => N13
            rename Fr _ _ _ _ => F13
            refine stepP_next F13 (news_endE N13) (off_lev (a := (AL, W.listOf pa.toArray na)) (b := (SL, W.listOf vS.toArray nS)) (c := (OL, W.listOf vO2.toArray nO2)) (own := k.own w.params 1 tl push2 pn3 0 tp) (offl := offled2) hI2A rfl rfl rfl hoI2 (fun q hq => ?_)) ⟨ps4, vO2 ++ [Value.ref D3], pn4, nO2 + 1, ta2, (D3, W.listOf pa.toArray c3) :: offled2, hps4, ?_, (fun q hq => ?_), rfl, rfl, rfl, rfl, rfl, rfl⟩
            · rcases List.mem_cons.mp hq with rfl | hq
              · exact Nat.ne_of_gt hD3I
              · exact hofI q hq
            · rw [List.replicate_succ', ← List.append_assoc]
              exact hvO2.snoc hpa
            · rcases List.mem_cons.mp hq with rfl | hq
              · exact ⟨hD3S, Nat.ne_of_gt hD3A⟩
              · exact hof2 q hq
          · rintro h3 tk3 m₃ n₃ rq1 F3 N3
            walk_at "open"
            obtain ⟨push2, vO2, pn3, nO2, ta2, offled2, hpu2, hvO2, hof2, y1, y2, y3, y4, y5, rfl⟩ := rq1
            walk_at "shut"
            have F4 := fr1 (fr1 (fr1 (fr1 (fr1 F3 (a := Str.ofString "seated") y5) (a := Str.ofString "seats") y4) (a := Str.ofString "offers") y3) (a := Str.ofString "active") y2) (a := Str.ofString "line") y1
            clear F3 y1 y2 y3 y4 y5
            have hdone := hA.done
            rw [hA.len] at hdone
            dsimp only [List.cons_append, List.nil_append] at N3
            refine (let X2 : Led := (L' + 1 + 1 + 1, o1) :: (L' + 1 + 1, o2) :: (L' + 1, o3) :: (k.own w.params 1 tl push2 pn3 0 tp ++ (TL ++ offled2)); have N3 : News g' L' _ (_ :: _ :: _ :: X2) := N3; ?_)
            (try walk_at "fold")
            (try refine (let m : Str → Option Value := _; have F' : Fr _ _ _ m := ‹Fr _ _ _ _›; ?_))
            have lM : Halt "eval ListComp" := trivial
            k_steps
            refine go_ ?_
            clear lM
            k_dflt (refine ListComp_2 (F₀ := by k_asm) (by with_unfolding_all rfl) (by decide) (by rfl) (by decide) (by rfl) (by rfl) (by decide +kernel) ?_ (fun _ => rfl) (fun _ _ => rfl))
            k_steps
            refine go_ ?_
            refine Src2.ledger (by rfl) (by k_asm) (by k_asm) (by k_mem) ?_
            intro g9
            refine body_rep b active ?_ (rest2 ?_ ?_ ?_ ?_)
            · simp only [List.size_toArray, Array.length_toList]
              have hb2' := hb.ok.2.1
              exact Nat.le_trans (Nat.mul_le_mul (show pa.length ≤ 9 by lia) hb2') (by decide)
            · rintro I3 i3 v ys nw oI3 C oC D m₄ h6 tk6 E6 hi3 hv rq1 hC hx F6 N6 off6 ne6
              walk_at "open"
              obtain ⟨hH, hys⟩ := rq1
              walk_at "shut"
              replace off6 := has_off hH off6
              replace N6 := has_news hH N6
              clear hH
              (try walk_at "red")
              (try walk_at "fold")
              (try refine (let m : Str → Option Value := _; have F' : Fr _ _ _ m := ‹Fr _ _ _ _›; ?_))
              k_steps
              refine go_ ?_
              refine Open2.intro (by assumption) (range_ok (by have := hb.ok; lia)).1 (range_ok (by have := hb.ok; lia)).2 (by k_asm) (by k_asm) _ (fun _ h => h) off6 (.inr ⟨_, by k_mem, rfl, _, rfl⟩) ⟨Has.refl _, by rw [List.replicate_zero, List.append_nil]; exact hys⟩
            · rintro I3 i3 j3 v t3 ys nw I4 oI4 oI3 C oC D m₄ h6 tk6 E6 hi3 hj3 hv rq1 hC hx1 hx2 F6 N6 off6
              walk_at "open"
              obtain ⟨hH, hys⟩ := rq1
              obtain ⟨tv, rfl, hil⟩ := strs_getD hpa (by simpa using hv)
              walk_at "shut"
              replace off6 := has_offA hH off6
              replace N6 := has_news4 hH N6
              clear hH
              refine wpAny_tests_nil ?_
              simp only [if_true]
              (try walk_at "fold")
              (try refine (let m : Str → Option Value := _; have F' : Fr _ _ _ m := ‹Fr _ _ _ _›; ?_))
              k_steps
              refine go_ ?_
              refine End2.intro (by k_asm) (by k_asm) _ (fun _ h => h) off6 (.inr ⟨_, by k_mem, rfl, _, rfl⟩) (JR.step ⟨Has.refl _, hys⟩ rfl (Has.refl _))
            · intro i3 ys nw hi3 hJ
              refine JR.close ?_ hJ
              have e1 : pa.length = active.length := by rw [strs_len hpa, List.length_map]
              simp only [List.size_toArray, Array.length_toList] at hi3
              lia
            · rintro ys nw rq1
              walk_at "open"
              obtain ⟨hH, hys⟩ := rq1
              walk_at "shut"
              rw [List.take_of_length_le (by simp only [List.size_toArray, Array.length_toList]; have e1 : pa.length = active.length := by rw [strs_len hpa, List.length_map]
                                             lia)] at hys
              unfold LCg.FinE
              intro D9 h9 tk9 F9 N9 o9
              have hD9S : @Ne Nat SL D9 := off1_mem o9 (SL, _) (hH _ (by k_mem))
              replace N9 := has_news1 hH N9
              clear hH o9
              have hXS : ∀ q ∈ X2, q.1 ≠ SL := by
                exact fcons (by k_ne) (fcons (by k_ne) (fcons (by k_ne) (tail_ne (P := w.params) (tl := tl) (tp := tp) (TL := TL) (offled := offled2) (X := SL) hk (Nat.lt_trans hOpl hOS) hTLc (fun q hq => Nat.ne_of_gt (hof2 q hq).1) push2 pn3)))
              have hvS9 : vS.length ≤ 100 := by rw [strs_len hvS, List.length_map]; have q3 := hA.sts_len; lia
              have hys8 : ys.length = b * alen hosts b b := by rw [strs_len hys, List.length_map, repb_len, hA.len]
              have hext : vS.length + ys.length ≤ 1000 := by lia
              (try walk_at "red")
              (try walk_at "fold")
              (try refine (let m : Str → Option Value := _; have F' : Fr _ _ _ m := ‹Fr _ _ _ _›; ?_))
              have hM : Halt "call builtin:list.extend" := trivial
              k_steps
              refine go_ ?_
              clear hM
              (k_dflt (refine' lst_extend ?zqF ?zqN ?zqU ?zqb ?zqz ?_; (case zqF => k_asm); (case zqN => k_asm); (case zqU => k_updF); (case zqb => k_mem); (case zqz => assumption)); intro zh3 zn3 zF3 zN3; (try dsimp only at zN3))
              k_steps
              rename News _ _ _ _ => N14
              (try k_unfold)
              refine leaveM_ (M' := (_, _) :: (OL, W.listOf vO2.toArray nO2) :: (SL, W.listOf (vS ++ ys).toArray _) :: (offled2 ++ TL)) (by k_asm) (news_foeE N14) (fun F N => ?_)
              rw [hTe] at N
              rw [hdone.1] at N
              exact kk _ OL SL vO2 (vS ++ ys) _ _ _ _ (sts ++ repb b active) offled2 _ _ hvO2 (by rw [List.map_append]; exact strs_app hvS hys) hdone.2.1 hdone.2.2.1 hdone.2.2.2 F (by simpa only [List.append_assoc, List.cons_append, List.nil_append] using N)
end Mine

end
section
open PySem.Spec PyProof.V PySem PySem.W PySem.W.X PyProof.Rows PySem.Calls
namespace Mine
theorem law_post (args : List WData) : PySem.Challenge.rw_to0079_01.row.claim.post args (.bool true) args = true := by
  refine postW_of (r := PySem.Challenge.rw_to0079_01.row.toRowW) (X := true) ?_ ?_ rfl
  · show WShape.has _ (.bool true) .bool = true
    first | rfl | (simp [WShape.has]; done)
  · show (WTm.eq .res (.lit (.bool true))).value _ _ = _
    exact w_eq_bool (k := true) (l := true) (w_res rfl) w_lit
theorem gen_Q {α : Type} {M : Model} {A : Around} {t : Sem α} {s : Shared} {Q : α → Shared → Prop} {E : Value → Shared → Prop} {F : α → Shared → Prop} (hF : ∀ a s', F a s' → Q a s') (h : ∀ Q' E', (∀ a s', F a s' → Q' a s') → wpAny M A t Q' E' s) : wpAny M A t Q E s := h Q E hF
theorem d2i_offE {I C D cc c : Addr} {oI oC oD occ oc t' : Obj} {T base : Led} (off : LCg.Off3 I C D ((cc, occ) :: (T ++ base))) (h45 : ∃ t, ((45 : Addr), t) ∈ T) (hr : ∀ p ∈ (I, oI) :: (C, oC) :: (D, oD) :: (cc, occ) :: base, @Ne Nat p.1 c) :
    LCg.Off3 I C D ((cc, occ) :: ([((45 : Addr), t'), (c, oc)] ++ base)) := by
  walk_at "open"
  obtain ⟨t, h45⟩ := h45
  walk_at "shut"
  have z := off.mem
  exact LCg.Off3.of (fcons (z _ (.head _)) (fcons (z (45, t) (.tail _ (List.mem_append_left _ h45))) (fcons ⟨Ne.symm (hr (I, oI) (.head _)), Ne.symm (hr (C, oC) (.tail _ (.head _))), Ne.symm (hr (D, oD) (.tail _ (.tail _ (.head _))))⟩ fun p hp => z p (.tail _ (List.mem_append_right _ hp)))))
theorem d2i_offcE {I C D cc c : Addr} {oI oC oD occ oc t' : Obj} {T base : Led} (offc : ∀ p ∈ T ++ base, @Ne Nat p.1 cc) (h45 : ∃ t, ((45 : Addr), t) ∈ T) (hr : ∀ p ∈ (I, oI) :: (C, oC) :: (D, oD) :: (cc, occ) :: base, @Ne Nat p.1 c) :
    ∀ p ∈ ([((45 : Addr), t'), (c, oc)] ++ base : Led), @Ne Nat p.1 cc := by
  walk_at "open"
  obtain ⟨t, h45⟩ := h45
  walk_at "shut"
  exact fcons (offc (45, t) (List.mem_append_left _ h45)) (fcons (Ne.symm (hr (cc, occ) (.tail _ (.tail _ (.tail _ (.head _)))))) fun p hp => offc p (List.mem_append_right _ hp))
local macro_rules | `(tactic| k_mem) => `(tactic| with_reducible assumption)
local macro_rules | `(tactic| news_mem) => `(tactic| k_mem)
theorem law_holds : PySem.Challenge.rw_to0079_01.Holds := by
  w_on
  refine holds_law said_ok fun said => ?_
  refine PySem.W.holds_open (q := V) (loose := loose3) (Xt := Xt) (XP := XL V []) (Yf := (kmHook Khp asK hasK [38, 177, 45]).obs) (Ya := (kmHook Khp asK hasK [38, 177, 45]).val) (YP := (kmHook Khp asK hasK [38, 177, 45]).says) (N := 30000) left_ok (Hook.of _) (Hook.keeps _) (fun s e => xl_of s (Bool.and_eq_true_iff.mp e).1) XL.keeps (by rfl) (by rfl) (by rfl) (fun s e => recFacts_of (Bool.and_eq_true_iff.mp e).2) rfl (by assumption) (by decide +kernel) ⟨rfl, rfl, rfl, rfl, rfl, by decide +kernel⟩ ?hw ?hc
  case hw => w_witness2
  case hc =>
  k_go0
  (all_goals try k_fold)
  rename_i w s₀ s₁ mg mb G Y fa ob pm cd doc ho hcd hg X V T B TE TW ns hs hlay0 hL0 hr0 hl2 wa wb l vs wc hL ra w1 r0 hI hr1 hc1 hc2 hD h₁ tk₁ o1 o2 o3 o4 o5 o6 o7 d1 d2 d3 d4 d5 d6 d7 X0 X' T' B' F' hcd1 hcd2 N' l1
  have hi : IntsAre vs ns := hI
  have hsz : vs.toArray.size ≤ sizeLine := by
    rw [List.size_toArray, hI.length, sizeLine_eq]
    have : ¬ (63 : Int) < (ns.length : Int) := hc1
    lia
  have hl' := lifted
  have hT := text_holds
  have hP := din_all
  have hS' := set107 (w := w) (X' 107 _ (by kernel_rfl))
  have hD' := tab118 (w := w) (X' 118 _ (by kernel_rfl))
  clear said hI hD hcd ho hr1 hc1 hc2 ra w1 r0 hL hr0 hl2 hL0 hlay0 hs X0 hcd1 hcd2 codeHd lifted hT9 hT8 TW TE B T V X Y G
  revert X' T' hl' hS' hD' B' F' N' l1
  refine gen_ (ghostOf s₁.heap [(42, 38), (181, 177), (49, 45)]) ?_
  intro g'
  refine gen_ (s₁.heap.objs.size) ?_
  intro L' X' T' B' F' N' l1 hl' hS' hD'
  replace F' : Fr g' L' h₁ (fun z => if z = Str.ofString "script" then some (.ref l) else none) := fr_congr F' (fun z => rfl)
  replace N' : News g' L' h₁ [(L' + 1 + 1 + 1 + 1 + 1 + 1 + 1, o1), (L' + 1 + 1 + 1 + 1 + 1 + 1, o2), (L' + 1 + 1 + 1 + 1 + 1, o3), (L' + 1 + 1 + 1 + 1, o4), (L' + 1 + 1 + 1, o5), (L' + 1 + 1, o6), (L' + 1, o7), (38, tabObj #[]), (45, tabObj #[]), (177, tabObj #[])] := news_blk [[_], [_], [_], [_], [_], [_], [_], [_], [_], [_]] [0, 1, 2, 3, 4, 5, 6, 7, 9, 8] N'
  replace l1 : 38 < L' ∧ 45 < L' ∧ 177 < L' := ⟨l1.1, l1.2.2, l1.2.1⟩
  change wpAny (model PySem.Challenge.pw_to0079_01 w) _ _ _ _ _
  replace d1 : o1.data = Data.cell none := d1
  replace d2 : o2.data = Data.cell none := d2
  replace d3 : o3.data = Data.cell none := d3
  replace d4 : o4.data = Data.cell none := d4
  replace d5 : o5.data = Data.cell none := d5
  replace d6 : o6.data = Data.cell none := d6
  replace d7 : o7.data = Data.cell none := d7
  walk_at "open"
  obtain ⟨dp, un, hcA, hd, hu⟩ : ∃ dp un : Nat, callerA = ({ depth := dp, frames := some [], guards := some [], units := un } : Around) ∧ dp + 60 < recursionLimit ∧ un + 500 < cLine := ⟨1 + claimMargin, 4, rfl, by decide, by decide⟩
  walk_at "shut"
  rw [hcA] at B' ⊢
  refine gen_Q (F := fun a s' => a = .ret (.bool true) ∧ s'.os = s₁.os ∧ s'.gens = s₁.gens ∧ (∃ m, Fr g' L' s'.heap m) ∧ GrownAt 38 s'.heap ∧ GrownAt 177 s'.heap ∧ GrownAt 45 s'.heap) ?_ ?_
  · intro a s' hF
    walk_at "open"
    obtain ⟨rfl, ho, hgs, ⟨m, F9⟩, z1, z2, z3⟩ := hF
    walk_at "shut"
    (try walk_at "red")
    refine ⟨goodW_bool (s₁ := { heap := g', gens := s₁.gens, drawn := s₁.drawn, toks := s₁.toks, os := s₁.os }) F9 (hgs.trans hg) ?_ ?_ ho, z1, z2, z3, trivial⟩
    · exact fun _ => rfl
    · exact law_post _
  clear hg hcA
  intro Q' E' kk
  (try walk_at "red")
  have h1M : Halt "call ref" := trivial
  have h2M : Halt "pyIter ref" := trivial
  have h3M : Halt "SrcC" := trivial
  have h4M : Halt "SrcS" := trivial
  have h5M : Halt "CompSrcT" := trivial
  have h6M : Halt "CompSrc" := trivial
  have h7M : Halt "CompEnd" := trivial
  have h8M : Halt "Src2" := trivial
  have h9M : Halt "Open2" := trivial
  have h10M : Halt "End2" := trivial
  have h11M : Halt "call builtin:str.join" := trivial
  have h12M : Halt "call builtin:sorted" := trivial
  have h13M : Halt "exec Assign cons ListComp" := trivial
  have h14M : Halt "binaryOp Pow int int" := trivial
  have h15M : Halt "call builtin:len" := trivial
  have s1M : HaltS "b" := trivial
  have s2M : HaltS "sure" := trivial
  have s3M : HaltS "guests" := trivial
  have s4M : HaltS "earned" := trivial
  have s5M : HaltS "kept" := trivial
  have s6M : HaltS "offers" := trivial
  have s7M : HaltS "seats" := trivial
  (try walk_at "fold")
  (try refine (let m : Str → Option Value := _; have F' : Fr _ _ _ m := ‹Fr _ _ _ _›; ?_))
  k_steps
  refine go_ ?_
  refine wpAny_call ?_
  refine c_draws rfl ⟨B', F', X', T', rfl, (room hd (by decide) : dp + 1 + 3 < recursionLimit), (room hu (by decide) : un + 3 + 20 < cLine)⟩ N' hl' hi hsz (fun DL ds xs h2 tk2 hds hdl hxb F2 N2 => ?_)
  have hxl : xs.length = 6 := by rw [← hds.length]; exact hdl
  clear N' F'
  (try walk_at "red")
  (try walk_at "fold")
  (try refine (let m : Str → Option Value := _; have F' : Fr _ _ _ m := ‹Fr _ _ _ _›; ?_))
  k_steps
  refine go_ ?_
  obtain ⟨b, hosts, hb, eb⟩ : ∃ b hosts : Nat, BH b hosts ∧ 1 + Int.fmod xs.sum 2 = (b : Int) := by
    have h0 := Int.fmod_nonneg_of_pos xs.sum (show (0 : Int) < 2 by decide)
    have h1 := Int.fmod_lt_of_pos xs.sum (show (0 : Int) < 2 by decide)
    rcases (by lia : Int.fmod xs.sum 2 = 0 ∨ Int.fmod xs.sum 2 = 1) with h | h
    · exact ⟨1, 2, .inl ⟨rfl, rfl⟩, by rw [h]; rfl⟩
    · exact ⟨2, 9, .inr ⟨rfl, rfl⟩, by rw [h]; rfl⟩
  rw [eb]
  rename News _ _ _ _ => N3
  rename Fr _ _ _ _ => F3
  refine store_at 7 (c := L' + 1) F3 N3 rfl rfl d7 (by (((try dsimp only [List.eraseIdx]); (repeat' (first | (refine fcons ?_ ?_) | exact fnil)); all_goals first | exact .inr notCell_list | exact .inr notCell_tab | exact .inr notCell_seq | exact .inl (by refine neN ?_; (try dsimp only); lia) | exact .inr (by assumption) | exact .inl (by assumption)))) (fun h4 o7b F4 N4 e7 => ?_) rfl rfl
  dsimp only [List.eraseIdx] at N4
  clear d7
  walk_at "open"
  obtain ⟨sb, hsb, hsb1, hsb2, hsb3, hwh, has⟩ := law_nums hb
  walk_at "shut"
  have hbk := hb.ok
  have hb01 : 0 ≤ (b : Int) := by lia
  have hb06 : (b : Int) ≤ 1000000 := by lia
  have hbna : ((b : Int)).natAbs < 2 ^ 64 := nabs (by lia)
  clear hbk
  (try walk_at "red")
  (try walk_at "fold")
  (try refine (let m : Str → Option Value := _; have F' : Fr _ _ _ m := ‹Fr _ _ _ _›; ?_))
  k_steps
  refine go_ ?_
  refine wpAny_call ?_
  refine c_pow rfl hb ⟨B', (by k_asm), X', T', rfl, (room hd (by decide) : dp + 1 + 3 < recursionLimit), (room hu (by decide) : un + 3 + 20 < cLine)⟩ (by k_asm) (fun PD po h5 tk5 dr5 hpd hpo F5 N5 => ?_)
  (try walk_at "red")
  (try walk_at "fold")
  (try refine (let m : Str → Option Value := _; have F' : Fr _ _ _ m := ‹Fr _ _ _ _›; ?_))
  have hM : Halt "subscriptTail" := trivial
  k_steps
  refine go_ ?_
  clear hM
  walk1
  ((with_reducible show wpAny _ _ (subscriptTail _ _ (Value.ref _) (Value.int ((_ : Nat) : Int) _)) _ _ _); k_dflt (refine' item_pow ?zqN ?zqm ?zqd ?zqp ?_ ?zqs ?zqg; (case zqN => k_asm); (case zqm => k_mem); (case zqd => assumption); (case zqp => assumption); (case zqs => with_unfolding_all rfl); (case zqg => intro _; with_unfolding_all rfl)); intro zu zk)
  k_steps
  refine go_ ?_
  with_reducible refine pow_gen (by assumption) (by assumption) (by assumption) (by assumption) ?_
  (try walk_at "red")
  k_steps
  refine go_ ?_
  rename News _ _ _ _ => N6
  rename Fr _ _ _ _ => F6
  refine store_at 7 (c := L' + 1 + 1) F6 (news_tl N6) rfl rfl d6 (by (((try dsimp only [List.eraseIdx]); (repeat' (first | (refine fcons ?_ ?_) | exact fnil)); all_goals first | exact .inr notCell_list | exact .inr notCell_tab | exact .inr notCell_seq | exact .inl (by refine neN ?_; (try dsimp only); lia) | exact .inr (by assumption) | exact .inl (by assumption)))) (fun h7 o6b F7 N7 e6 => ?_) rfl rfl
  dsimp only [List.eraseIdx] at N7
  clear d6 N6 F6 hpd hpo
  (try walk_at "red")
  exact (by
  (try walk_at "fold")
  (try refine (let m : Str → Option Value := _; have F' : Fr _ _ _ m := ‹Fr _ _ _ _›; ?_))
  k_steps
  refine go_ ?_
  rename News _ _ _ _ => N8
  refine (let Lw : Led := _; have N8 : News g' L' _ Lw := N8; ?_)
  refine LCg.CompSrc.ledger (by rfl) (by k_asm) (by k_asm) (by k_mem) (by rw [List.size_toArray, hds.length, hxl, sizeLine_eq]; decide) ?_
  intro g9
  refine comp_all (JWd Lw xs) _ ?_ ?_ (Nat.zero_add _) ⟨fun q hq => hq, .nil⟩
  · rintro j ys nw v I2 oI2 C oC D2 m₂ h5 tk5 E5 hj hv rq1 hC hxx F5 N5 off5 ne5
    walk_at "open"
    obtain ⟨hH, hys⟩ := rq1
    walk_at "shut"
    replace off5 := has_off hH off5
    replace N5 := has_news hH N5
    clear hH
    walk_at "open"
    obtain ⟨mm, tm, rfl, hmj⟩ := ints_at hds (by simpa using hv)
    walk_at "shut"
    have hmb := hxb mm (List.mem_of_getElem? hmj)
    (try walk_at "fold")
    (try refine (let m : Str → Option Value := _; have F' : Fr _ _ _ m := ‹Fr _ _ _ _›; ?_))
    k_steps
    refine go_ ?_
    refine wpAny_call ?_
    refine c_word rfl ⟨B', F5, X', T', rfl, (room hd (by decide) : dp + 1 + 3 < recursionLimit), (room hu (by decide) : un + 3 + 20 < cLine)⟩ N5 hmb.1 hmb.2 (fun t6 h6 tk6 F6 N6 => ?_)
    (try walk_at "red")
    (try walk_at "fold")
    (try refine (let m : Str → Option Value := _; have F' : Fr _ _ _ m := ‹Fr _ _ _ _›; ?_))
    k_steps
    refine go_ ?_
    exact LCg.CompEnd.intro F6 N6 _ (fun _ h => h) off5 (.inr ⟨_, by k_mem, rfl, _, rfl⟩) ⟨Has.refl _, by rw [take_wordOf hmj]; exact strs_snoc hys⟩
  rintro ys nw rq1
  walk_at "open"
  obtain ⟨hH, hys⟩ := rq1
  walk_at "shut"
  unfold LCg.FinE
  intro D9 h9 tk9 F9 N9 o9
  replace N9 := has_news1 hH N9
  clear hH o9 N8
  rw [show List.take (ds.toArray.size) xs = xs from List.take_of_length_le (by rw [List.size_toArray, hds.length]; exact Nat.le_refl _)] at hys
  walk_at "open"
  obtain ⟨ln, lnl, ws, rs, fold, hlx, hws, htl, hend, hln, hfo, hwk⟩ := hT xs hxl hxb
  walk_at "shut"
  (try walk_at "fold")
  (try refine (let m : Str → Option Value := _; have F' : Fr _ _ _ m := ‹Fr _ _ _ _›; ?_))
  k_steps
  refine go_ ?_
  refine join_lst (by k_asm) (by k_mem) hys (text_weight hxl htl) (fun tx tkx => ?_)
  change wpAny _ _ _ _ _ _
  rw [show ((xs.map wordOf).map fun x => x.cps.toList).flatten = textOf xs from rfl]
  (try walk_at "fold")
  (try refine (let m : Str → Option Value := _; have F' : Fr _ _ _ m := ‹Fr _ _ _ _›; ?_))
  k_steps
  refine go_ ?_
  refine wpAny_call ?_
  rename News _ _ _ _ => N10
  rename Fr _ _ _ _ => F10
  dsimp only [Lw] at N10
  have N11 := news_pick 10 (news_tl N10) rfl
  dsimp only [List.eraseIdx] at N11
  refine c_machine0 rfl ⟨B', F10, X', T', rfl, (room hd (by decide) : dp + 1 + 3 < recursionLimit), (room hu (by decide) : un + 3 + 20 < cLine)⟩ N11 (hap_of' N11 (by (((try dsimp only [List.eraseIdx]); (repeat' (first | (refine fcons ?_ ?_) | exact fnil)); all_goals (first | exact .inr (by with_reducible assumption) | exact .inr (Ne.symm (by with_reducible assumption)) | exact .inl (cell_ne_code (by assumption) (by assumption)) | exact .inl (Ne.symm (cell_ne_code (by assumption) (by assumption))) | exact .inl (seq_ne_code (by assumption)) | exact .inl (Ne.symm (seq_ne_code (by assumption))) | exact .inl (cell_ne_seq (by assumption)) | exact .inl (Ne.symm (cell_ne_seq (by assumption))) | exact .inl (cell_ne_tab (by assumption)) | exact .inl (Ne.symm (cell_ne_tab (by assumption))) | (refine .inl ?_; intro e; cases e; done) | exact .inr (by k_ne)))))) (fun k c1 c2 q1 q2 tl pn tp h11 tk11 hk hk1 hoff k1 k2 hct F11 N11 => ?_)
  (try walk_at "red")
  clear N10 F10 hys
  (try walk_at "fold")
  (try refine (let m : Str → Option Value := _; have F' : Fr _ _ _ m := ‹Fr _ _ _ _›; ?_))
  k_steps
  refine go_ ?_
  refine wpAny_call ?_
  rename News _ _ _ _ => N12
  rename Fr _ _ _ _ => F12
  have of1 := hoff.lt
  refine c_read rfl ⟨B', F12, X', T', rfl, (room hd (by decide) : dp + 1 + 24 < recursionLimit), (room hu (by decide) : un + 3 + 160 < cLine)⟩ N12 (hap_own hk N12 (lt_own hk hct) (by unfold tabLed; (((try dsimp only [List.eraseIdx]); (repeat' (first | (refine fcons ?_ ?_) | exact fnil)); all_goals (first | exact .inr (by with_reducible assumption) | exact .inr (Ne.symm (by with_reducible assumption)) | exact .inl (cell_ne_code (by assumption) (by assumption)) | exact .inl (Ne.symm (cell_ne_code (by assumption) (by assumption))) | exact .inl (seq_ne_code (by assumption)) | exact .inl (Ne.symm (seq_ne_code (by assumption))) | exact .inl (cell_ne_seq (by assumption)) | exact .inl (Ne.symm (cell_ne_seq (by assumption))) | exact .inl (cell_ne_tab (by assumption)) | exact .inl (Ne.symm (cell_ne_tab (by assumption))) | (refine .inl ?_; intro e; cases e; done) | exact .inr (by k_ne)))))) hk hk1 k1 hoff hlx hws (Nat.zero_le _) (by show (textOf xs).toArray.size ≤ 100; rw [List.size_toArray]; lia) (by lia) hS' hD' hfo (fun G gs gn pos' tp' tl' h13 tk13 hgs hdrop hpos F13 N13 => ?_)
  (try walk_at "red")
  (try walk_at "fold")
  (try refine (let m : Str → Option Value := _; have F' : Fr _ _ _ m := ‹Fr _ _ _ _›; ?_))
  k_steps
  refine go_ ?_
  rename News _ _ _ _ => N14
  rename Fr _ _ _ _ => F14
  clear N12 F12
  walk_at "open"
  obtain ⟨X, hXe⟩ : ∃ X, k.own w.params (1 + (ln : Int)) tl' [] pn (pos' : Nat) tp' = X := ⟨_, rfl⟩
  walk_at "shut"
  have hXs : ∀ p ∈ X, Slim p.2 := by rw [← hXe]; exact own_slim hk
  have hXo : ∀ p ∈ X, @Ne Nat p.1 c2 ∧ @Ne Nat p.1 c1 ∧ @Ne Nat p.1 177 := by rw [← hXe]; exact off_own hk hoff
  have hXc : ∀ p ∈ X, @LE.le Nat _ k.ct p.1 := by rw [← hXe]; exact own_ge hk
  have hXL : ∀ p ∈ X, @LT.lt Nat _ (L' + 1 + 1 + 1 + 1 + 1 + 1 + 1) p.1 := fun p hp => Nat.lt_of_lt_of_le (hct (_, o1) (by k_mem)) (hXc p hp)
  have hXD : ∀ p ∈ X, @Ne Nat p.1 DL := fun p hp => Nat.ne_of_gt (Nat.lt_of_lt_of_le (hct (DL, _) (by k_mem)) (hXc p hp))
  rw [hXe] at N14
  replace hgs : StrsAre gs ((xs.map lkOf).map fun l => ⟨l.toArray⟩) := by rw [← hwk, List.map_map]; exact hgs
  have hgl : gs.length = 6 := by rw [hgs.length, List.length_map, List.length_map, hxl]
  have hXG : ∀ p ∈ X, @Ne Nat p.1 G := slim_ne hXs N14 (fun p hp => List.mem_append_left _ (List.mem_append_right _ (List.mem_append_left _ hp))) (.head _) (strs_ne hgs (by rw [List.length_map, List.length_map, hxl])).1 (strs_ne hgs (by rw [List.length_map, List.length_map, hxl])).2
  refine (let R14 : Led := (L' + 1 + 1 + 1 + 1 + 1, o3) :: (L' + 1 + 1 + 1 + 1, o4) :: (G, W.listOf gs.toArray gn) :: (c2, q2) :: (c1, q1) :: (177, tabObj #[rawInt 185, rawInt 4, .ref c1, rawInt 189, rawInt 13, .ref c2]) :: (DL, W.listOf ds.toArray ds.length) :: (L' + 1 + 1, o6b) :: (L' + 1, o7b) :: (L' + 1 + 1 + 1 + 1 + 1 + 1 + 1, o1) :: (L' + 1 + 1 + 1 + 1 + 1 + 1, o2) :: (38, tabObj #[]) :: X; ?_)
  replace N14 : News g' L' _ ((L' + 1 + 1 + 1, o5) :: (45, tabObj #[]) :: R14) := news_blk [[_], _, [_], [_], [_], [_], [_], [_], [_], [_], [_], [_], [_], [_], [_]] [12, 14, 10, 11, 0, 2, 3, 4, 7, 5, 6, 8, 9, 13, 1] (news_sa [_] X (tabLed c1 c2 q1 q2) _ N14)
  have m7 : ((L' + 1, o7b) : Addr × Obj) ∈ R14 := List.mem_of_getElem? (i := 8) rfl
  refine store_at 0 (c := L' + 1 + 1 + 1) F14 N14 rfl rfl d5 (by (((try dsimp only [List.eraseIdx]); (repeat' (first | (refine fcons ?_ ?_) | exact fnil)); all_goals first | exact .inr notCell_list | exact .inr notCell_tab | exact .inr notCell_seq | exact .inr (notCell_code (by assumption)) | exact .inr (by with_reducible assumption) | exact .inl (by with_reducible assumption) | exact (fun p hp => .inl (by have z := hXL p hp; k_ne)) | exact .inl (by k_ne)))) (fun h15 o5b F15 N15 e5 => ?_) rfl rfl
  dsimp only [List.eraseIdx] at N15
  clear d5 N14 F14 hct
  (try walk_at "red")
  exact (by
  (try walk_at "fold")
  (try refine (let m : Str → Option Value := _; have F' : Fr _ _ _ m := ‹Fr _ _ _ _›; ?_))
  k_steps
  refine go_ ?_
  walk_at "open"
  obtain ⟨Bs, hBs⟩ : ∃ Bs : Led, Bs = (L' + 1 + 1 + 1, o5b) :: R14 := ⟨_, rfl⟩
  walk_at "shut"
  have hXf : ∀ p ∈ X, @Ne Nat p.1 45 := fun p hp => by have z := hXL p hp; k_ne
  have hB45 : ∀ p ∈ Bs, @Ne Nat p.1 45 := fun p hp e => hap_of' (news_pick 1 N15 rfl) (by (((try dsimp only [List.eraseIdx]); (repeat' (first | (refine fcons ?_ ?_) | exact fnil | exact (fun p hp => fcons (.inr (hXf p hp)) (fnil)))); all_goals first | exact .inl (code_ne_tab0 (by assumption)) | exact .inl (Ne.symm (code_ne_tab0 (by assumption))) | (first | exact .inr (by with_reducible assumption) | exact .inr (Ne.symm (by with_reducible assumption)) | exact .inl (cell_ne_code (by assumption) (by assumption)) | exact .inl (Ne.symm (cell_ne_code (by assumption) (by assumption))) | exact .inl (seq_ne_code (by assumption)) | exact .inl (Ne.symm (seq_ne_code (by assumption))) | exact .inl (cell_ne_seq (by assumption)) | exact .inl (Ne.symm (cell_ne_seq (by assumption))) | exact .inl (cell_ne_tab (by assumption)) | exact .inl (Ne.symm (cell_ne_tab (by assumption))) | (refine .inl ?_; intro e; cases e; done) | exact .inr (by k_ne))))) p (by rw [hBs] at hp; exact hp) (by rw [e]; exact List.mem_cons_self)
  have hGB : (G, W.listOf gs.toArray gn) ∈ Bs := by rw [hBs]; k_mem
  refine Assign_ListComp_C (F₀ := by k_asm) rfl (by with_unfolding_all rfl) (by rfl) rfl (by decide +kernel) (by rfl) (by decide) rfl (by rfl) ?_ (fun _ => rfl)
  (try walk_at "fold")
  (try refine (let m : Str → Option Value := _; have F' : Fr _ _ _ m := ‹Fr _ _ _ _›; ?_))
  k_steps
  refine go_ ?_
  have N16 := news_pick 1 N15 rfl
  dsimp only [List.eraseIdx] at N16
  refine ex4 G gs.toArray gn ((45, tabObj #[]) :: Bs) ⟨rfl, rfl, (by k_asm), (by rw [hBs]; exact N16), (List.mem_cons_of_mem _ hGB), (by rw [List.size_toArray, hgl, sizeLine_eq]; decide), fun g16 => ?_⟩
  refine compC_all (JMk Bs xs) _ ?_ ?_ (Nat.zero_add _) ⟨[(45, tabObj #[])], fun q hq => hq, .nil, .inl rfl⟩
  · rintro i ys nw v I oI C oC D cc occ h5 tk5 E5 hi hv rq1 hocc F5 N5 off5 offc ne5
    walk_at "open"
    obtain ⟨T, hH, hys, hT4⟩ := rq1
    obtain ⟨x, hx, tlk, rfl⟩ := guest_x hgs (by simpa using hv)
    walk_at "shut"
    replace N5 := hasC_news hH N5
    replace off5 := hasC_off hH off5
    replace offc : ∀ p ∈ T ++ Bs, @Ne Nat p.1 cc := fun p hp => offc p (hH p hp)
    clear hH hv
    walk_at "open"
    obtain ⟨All, hAll⟩ : ∃ All, All = T ++ Bs := ⟨_, rfl⟩
    walk_at "shut"
    rw [← hAll] at N5 off5 offc
    (try walk_at "fold")
    (try refine (let m : Str → Option Value := _; have F' : Fr _ _ _ m := ‹Fr _ _ _ _›; ?_))
    have hM : Halt "eval ListComp" := trivial
    k_steps
    refine go_ ?_
    clear hM
    refine ListComp_SU (F₀ := by k_asm) (by rfl) (by decide) (by rfl) (by decide) (by rfl) ?_ (fun _ => rfl)
    k_steps
    refine go_ ?_
    refine ex3 _ _ _ ⟨rfl, rfl, (by k_asm), (by k_asm), (by decide +kernel), ?_⟩
    rintro s2 rq1
    walk_at "open"
    obtain ⟨g9, rfl⟩ := rq1
    walk_at "shut"
    refine comp_all (JB (lkOf x) ((I, oI) :: (C, oC) :: (D, LCg.lst ys) :: (cc, occ) :: All)) _ ?_ ?_ (Nat.zero_add _) ⟨Has.refl _, .nil⟩
    · rintro j zs nw v I2 oI2 C2 oC2 D2 m₂ h6 tk6 E6 hj hv rq1 hC hxx F6 N6 off6 ne6
      walk_at "open"
      obtain ⟨hH, hzs⟩ := rq1
      obtain ⟨c, u, hc, rfl⟩ := rgb_sign hv
      walk_at "shut"
      replace off6 := has_off hH off6
      replace N6 := has_news hH N6
      clear hH hv
      (try walk_at "fold")
      (try refine (let m : Str → Option Value := _; have F' : Fr _ _ _ m := ‹Fr _ _ _ _›; ?_))
      k_steps
      · rename List.isEmpty _ = true => hz
        refine go_ ?_
        exact LCg.CompEnd.intro (by k_asm) (by k_asm) _ (fun _ h => h) off6 trivial ⟨Has.refl _, by rw [bits_no (lkOf_LK x) hc hz]; exact hzs.append (.cons _ _ .nil)⟩
      · rename List.isEmpty _ = false => hz
        refine go_ ?_
        exact LCg.CompEnd.intro (by k_asm) (by k_asm) _ (fun _ h => h) off6 trivial ⟨Has.refl _, by rw [bits_yes (lkOf_LK x) hc hz]; exact hzs.append (.cons _ _ .nil)⟩
    · rintro zs nw rq1
      walk_at "open"
      obtain ⟨hH, hzs⟩ := rq1
      walk_at "shut"
      unfold LCg.FinE
      intro D9 h9 tk9 F9 N9 o9
      replace N9 := has_news1 hH N9
      have hD9 : ∀ p ∈ ((I, oI) :: (C, oC) :: (D, LCg.lst ys) :: (cc, occ) :: All), p.1 ≠ D9 := fun p hp => off1_mem o9 p (hH p hp)
      clear hH o9 N5
      rw [show List.take (Str.ofString "rgb").cps.size (bits3 (lkOf x)) = bits3 (lkOf x) from List.take_of_length_le (by rw [show (Str.ofString "rgb").cps.size = 3 by decide +kernel]; exact Nat.le_refl _)] at hzs
      (try walk_at "fold")
      (try refine (let m : Str → Option Value := _; have F' : Fr _ _ _ m := ‹Fr _ _ _ _›; ?_))
      k_steps
      refine go_ ?_
      refine wpAny_call ?_
      subst hAll
      have hTb : ∀ p ∈ Bs, p.1 ∉ T.map (·.1) := by
        rcases hT4 with rfl | ⟨c3, q3, rfl, _, _, hB3⟩
        · exact fun p hp => nin_map (fcons (Ne.symm (hB45 p hp)) fnil)
        · exact fun p hp => nin_map (fcons (Ne.symm (hB45 p hp)) (fcons (Ne.symm (hB3 p hp)) fnil))
      have h45m : ∃ t45, ((45 : Addr), t45) ∈ T := by rcases hT4 with rfl | ⟨c3, q3, rfl, _⟩ <;> exact ⟨_, List.mem_cons_self⟩
      refine c_d2i (T := T) rfl ⟨B', (by k_asm), X', T', rfl, (room hd (by decide) : dp + 1 + 30 < recursionLimit), (room hu (by decide) : un + 3 + 200 < cLine)⟩ (rest := (I, oI) :: (C, oC) :: (D, LCg.lst ys) :: (cc, occ) :: Bs) (hT4.imp id fun ⟨c, oc, e, h1, h2, _⟩ => ⟨c, oc, e, h1, h2⟩)
        (d2i_news N9) (d2i_hap hD9 off5 offc hTb) (fun q hq => hD9 q (List.mem_cons_of_mem _ (List.mem_cons_of_mem _ (List.mem_cons_of_mem _ (List.mem_cons_of_mem _ (List.mem_append_left _ hq)))))) hzs rfl (bits_01 _) (fun t c3 q3 h11 tk11 hq3 h453 hr3 hd3 F11 N11 => ?_)
      rw [val_bits]
      (try walk_at "red")
      refine CompEndC.intro F11 N11 _ d2i_sub (d2i_offE off5 h45m hr3) (d2i_offcE offc h45m hr3) (.inr ⟨_, List.mem_append_right _ hGB, rfl, _, rfl⟩) ⟨_, Has.refl _, ?_, .inr ⟨_, _, rfl, hq3, h453, fun p hp => hr3 p (List.mem_cons_of_mem _ (List.mem_cons_of_mem _ (List.mem_cons_of_mem _ (List.mem_cons_of_mem _ hp))))⟩⟩
      rw [take_mk7 hx]; exact hys.append (.cons _ _ .nil)
  rintro ys nw rq1
  walk_at "open"
  obtain ⟨T, hH, hys, hT4⟩ := rq1
  walk_at "shut"
  unfold LCg.FinA
  intro D9 h9 tk9 F9 N9 o9
  replace N9 := has_news1 hH N9
  replace o9 : ∀ p ∈ T ++ Bs, @Ne Nat p.1 D9 := fun p hp => off1_mem o9 p (hH p hp)
  clear hH
  rw [show List.take (gs.toArray.size) xs = xs from List.take_of_length_le (by rw [List.size_toArray, hgl, hxl]; exact Nat.le_refl _)] at hys
  obtain ⟨t45, ht45⟩ : ∃ t45, ((45 : Addr), tabObj t45) ∈ T := by rcases hT4 with rfl | ⟨c3, q3, rfl, _⟩ <;> exact ⟨_, List.mem_cons_self⟩
  replace N9 : News g' L' _ ((D9, LCg.lst ys) :: (45, tabObj t45) :: Bs) := news_sub N9 fun p hp => by
    rcases List.mem_cons.mp hp with rfl | hp
    · exact List.mem_cons_self
    · rcases List.mem_cons.mp hp with rfl | hp
      · exact List.mem_cons_of_mem _ (List.mem_append_left _ ht45)
      · exact List.mem_cons_of_mem _ (List.mem_append_right _ hp)
  replace o9 : ∀ p ∈ Bs, @Ne Nat p.1 D9 := fun p hp => o9 p (List.mem_append_right _ hp)
  clear hT4 hB45 hXf N15 ht45 T
  (try walk_at "red")
  have hMLD : LCg.lst ys = W.listOf ys.toArray ys.length := rfl
  rw [hMLD] at N9
  clear hMLD
  have hne : xs ≠ [] := fun e => by rw [e] at hxl; cases hxl
  have hGD : W.listOf ds.toArray ds.length ≠ W.listOf gs.toArray gn := ints_strs_ne hds hgs hne
  have hMG : W.listOf ys.toArray ys.length ≠ W.listOf gs.toArray gn := ints_strs_ne hys hgs (fun e => hne (List.map_eq_nil_iff.mp e))
  have hMDL : @Ne Nat DL D9 := o9 (DL, _) (by rw [hBs]; k_mem)
  have hXM : ∀ p ∈ X, @Ne Nat p.1 D9 := fun p hp => o9 p (by rw [hBs]; exact List.mem_of_mem_drop (i := 13) hp)
  have hM38 : @Ne Nat 38 D9 := o9 (38, _) (by rw [hBs]; k_mem)
  rw [hBs] at N9
  clear o9 hGB hBs Bs
  (try walk_at "fold")
  (try refine (let m : Str → Option Value := _; have F' : Fr _ _ _ m := ‹Fr _ _ _ _›; ?_))
  k_steps
  refine go_ ?_
  refine wpAny_call ?_
  rename News _ _ _ _ => N18
  rename Fr _ _ _ _ => F18
  refine (let S18 : Led := (D9, W.listOf ys.toArray ys.length) :: (L' + 1 + 1 + 1, o5b) :: (DL, W.listOf ds.toArray ds.length) :: (L' + 1 + 1, o6b) :: (L' + 1, o7b) :: (L' + 1 + 1 + 1 + 1 + 1 + 1 + 1, o1) :: (L' + 1 + 1 + 1 + 1 + 1 + 1, o2) :: (38, tabObj #[]) :: (45, tabObj t45) :: X; ?_)
  replace N18 : News g' L' _ ([(G, W.listOf gs.toArray gn), (c2, q2), (c1, q1), (177, tabObj #[rawInt 185, rawInt 4, .ref c1, rawInt 189, rawInt 13, .ref c2])] ++ ((L' + 1 + 1 + 1 + 1 + 1, o3) :: (L' + 1 + 1 + 1 + 1, o4) :: S18)) := news_blk [[_], [_], [_], [_], [_], [_], [_], [_], [_], [_], [_], [_], [_], [_], [_], _] [5, 6, 7, 8, 3, 4, 0, 2, 9, 10, 11, 12, 13, 14, 1, 15] N18
  have h12 : @LT.lt Nat _ 177 c1 ∧ @LT.lt Nat _ c1 c2 := ⟨of1.1, of1.2.1⟩
  have hGc2 : (W.listOf gs.toArray gn) ≠ q2 := seq_ne_code k2
  have hGc1 : (W.listOf gs.toArray gn) ≠ q1 := seq_ne_code k1
  have hG177 : (W.listOf gs.toArray gn) ≠ tabObj #[rawInt 185, rawInt 4, .ref c1, rawInt 189, rawInt 13, .ref c2] := fun e => by cases e
  have hX4 : ∀ q ∈ X, ∀ p ∈ ([(G, W.listOf gs.toArray gn), (c2, q2), (c1, q1), (177, tabObj #[rawInt 185, rawInt 4, .ref c1, rawInt 189, rawInt 13, .ref c2])] : Led), q.2 ≠ p.2 ∨ q.1 ≠ p.1 := fun q hq =>
    fcons (.inr (hXG q hq)) (fcons (.inr (hXo q hq).1) (fcons (.inr (hXo q hq).2.1) (fcons (.inr (hXo q hq).2.2) (fnil))))
  have hGne : @Ne Nat G c2 ∧ @Ne Nat G c1 ∧ @Ne Nat G 177 := ⟨ne_of_objs N18 (.head _) (.tail _ (.head _)) hGc2, ne_of_objs N18 (.head _) (.tail _ (.tail _ (.head _))) hGc1, ne_of_objs N18 (.head _) (.tail _ (.tail _ (.tail _ (.head _)))) hG177⟩
  refine c_dinner rfl ⟨B', F18, X', T', rfl, (room hd (by decide) : dp + 1 + 40 < recursionLimit), (room hu (by decide) : un + 3 + 300 < cLine)⟩ N18 (hap_of' N18 (by (((try dsimp only [List.eraseIdx]); (repeat' (first | exact fnil | with_reducible exact hX4 | (refine fcons ?_ ?_) | exact hX4)); all_goals first | exact .inl (code_ne_tab0 (by assumption)) | exact .inl (Ne.symm (code_ne_tab0 (by assumption))) | (first | exact .inr (by with_reducible assumption) | exact .inr (Ne.symm (by with_reducible assumption)) | exact .inl (cell_ne_code (by assumption) (by assumption)) | exact .inl (Ne.symm (cell_ne_code (by assumption) (by assumption))) | exact .inl (seq_ne_code (by assumption)) | exact .inl (Ne.symm (seq_ne_code (by assumption))) | exact .inl (cell_ne_seq (by assumption)) | exact .inl (Ne.symm (cell_ne_seq (by assumption))) | exact .inl (cell_ne_tab (by assumption)) | exact .inl (Ne.symm (cell_ne_tab (by assumption))) | (refine .inl ?_; intro e; cases e; done) | exact .inr (by k_ne)) | exact .inl (by assumption) | exact .inl (Ne.symm (by assumption)))))) h12 k1 k2 hgs (fun l hl => by obtain ⟨x, _, rfl⟩ := List.mem_map.mp hl; exact lkOf_LK x) (by rw [List.length_map, hxl]) hb.b12 hwh hGne (fun T EL KL FL ve vk ne nk t20 h20 tk20 hve hvk hER F20 N20 => ?_)
  (try walk_at "red")
  clear N18 F18
  have hXE : ∀ p ∈ X, @Ne Nat p.1 EL := fun p hp => (hER p (List.mem_of_mem_drop (i := 11) hp)).1
  have hXK : ∀ p ∈ X, @Ne Nat p.1 KL := fun p hp => (hER p (List.mem_of_mem_drop (i := 11) hp)).2.1
  have hXF : ∀ p ∈ X, @Ne Nat p.1 FL := fun p hp => (hER p (List.mem_of_mem_drop (i := 11) hp)).2.2
  walk_at "open"
  obtain ⟨nm, hnme⟩ : ∃ nm : Nat, (dinner b (hosts : Int) (List.map lkOf xs)).names.length = nm := ⟨_, rfl⟩
  walk_at "shut"
  rw [hnme] at N20
  dsimp only [List.cons_append, List.nil_append] at N20
  exact (by
  (try walk_at "fold")
  k_steps
  refine go_ ?_
  rename News _ _ _ _ => N21
  rename Fr _ _ _ _ => F21
  refine store_at 9 (c := L' + 1 + 1 + 1 + 1) F21 N21 rfl rfl d4 (by (((try dsimp only [List.eraseIdx]); (repeat' (first | (refine fcons ?_ ?_) | exact fnil)); all_goals first | exact .inr notCell_list | exact .inr notCell_tab | exact .inr notCell_seq | exact .inr (notCell_code (by assumption)) | exact .inr (by with_reducible assumption) | exact .inl (by with_reducible assumption) | exact (fun p hp => .inl (by have z := hXL p hp; k_ne)) | exact .inl (by k_ne)))) (fun h22 o4b F22 N22 e4 => ?_) rfl rfl
  dsimp only [List.eraseIdx] at N22
  clear d4 N21 F21
  (try walk_at "red")
  (try walk_at "fold")
  k_steps
  refine go_ ?_
  rename News _ _ _ _ => N23
  rename Fr _ _ _ _ => F23
  refine store_at 9 (c := L' + 1 + 1 + 1 + 1 + 1) F23 N23 rfl rfl d3 (by (((try dsimp only [List.eraseIdx]); (repeat' (first | (refine fcons ?_ ?_) | exact fnil)); all_goals first | exact .inr notCell_list | exact .inr notCell_tab | exact .inr notCell_seq | exact .inr (notCell_code (by assumption)) | exact .inr (by with_reducible assumption) | exact .inl (by with_reducible assumption) | exact (fun p hp => .inl (by have z := hXL p hp; k_ne)) | exact .inl (by k_ne)))) (fun h24 o3b F24 N24 e3 => ?_) rfl rfl
  dsimp only [List.eraseIdx] at N24
  clear d3 N23 F23
  refine (let R24 : Led := _; have N24 : News g' L' _ R24 := N24; ?_)
  have n5 : ((L' + 1 + 1 + 1 + 1 + 1, o3b) : Addr × Obj) ∈ R24 := List.mem_of_getElem? (i := 0) rfl
  have n4 : ((L' + 1 + 1 + 1 + 1, o4b) : Addr × Obj) ∈ R24 := List.mem_of_getElem? (i := 1) rfl
  have nE : ((EL, W.listOf ve.toArray ne) : Addr × Obj) ∈ R24 := List.mem_of_getElem? (i := 3) rfl
  have nK : ((KL, W.listOf vk.toArray nk) : Addr × Obj) ∈ R24 := List.mem_of_getElem? (i := 4) rfl
  have n7 : ((L' + 1, o7b) : Addr × Obj) ∈ R24 := List.mem_of_getElem? (i := 14) rfl
  have n6 : ((L' + 1 + 1, o6b) : Addr × Obj) ∈ R24 := List.mem_of_getElem? (i := 13) rfl
  (try walk_at "red")
  (try walk_at "fold")
  k_steps
  have hDE : @Ne Nat D9 EL := (hER (D9, _) (.tail _ (.tail _ (.head _)))).1
  have hDK : @Ne Nat D9 KL := (hER (D9, _) (.tail _ (.tail _ (.head _)))).2.1
  have hDF : @Ne Nat D9 FL := (hER (D9, _) (.tail _ (.tail _ (.head _)))).2.2
  have hLE : @Ne Nat DL EL := (hER (DL, _) (.tail _ (.tail _ (.tail _ (.tail _ (.head _)))))).1
  have hLK : @Ne Nat DL KL := (hER (DL, _) (.tail _ (.tail _ (.tail _ (.tail _ (.head _)))))).2.1
  have hLF : @Ne Nat DL FL := (hER (DL, _) (.tail _ (.tail _ (.tail _ (.tail _ (.head _)))))).2.2
  clear hER
  walk_at "open"
  obtain ⟨hsum, hnm, hel, hkl, heb, hkb, hsh, hlt⟩ := hP b hosts xs hb hxl
  walk_at "shut"
  rename News _ _ _ _ => N25
  rename Fr _ _ _ _ => F25
  refine go_ ?_
  refine wpAny_call ?_
  rw [hnme] at hsum hnm hlt
  walk_at "open"
  obtain ⟨hh2, hh9⟩ : 2 ≤ hosts ∧ hosts ≤ 9 := ⟨hb.ok.2.2.1, hb.ok.2.2.2.1⟩
  walk_at "shut"
  have hpr0 : 0 ≤ (hosts : Int) * (3 * (b : Int) - (nm : Nat)) := Int.mul_nonneg (by lia) (by lia)
  have hpr1 : (hosts : Int) * (3 * (b : Int) - (nm : Nat)) ≤ 9 * 6 := by
    have h1 : (3 * (b : Int) - (nm : Nat)) ≤ 6 := by have := hb.ok.2.1; lia
    exact Int.mul_le_mul (by lia) h1 (by lia) (by lia)
  rw [hsum]
  have hbl : (Builtin.Int.intBits (hosts : Int) : Int) < 100 := by
    rcases hb with ⟨_, h⟩ | ⟨_, h⟩ <;> (rw [h]; decide +kernel)
  refine c_div rfl ⟨B', F25, X', T', rfl, (room hd (by decide) : dp + 1 + 3 < recursionLimit), (room hu (by decide) : un + 3 + 20 < cLine)⟩ N25 hpr0 (Int.lt_of_le_of_lt hpr1 (by decide)) (by lia) (by lia) (Int.ofNat_nonneg _) hbl (fun T2 t21 t22 h26 tk26 F26 N26 => ?_)
  rw [Int.mul_fdiv_cancel_left _ (by lia), Int.mul_fmod_right] at N26
  (try walk_at "red")
  clear N25 F25 hpr0 hpr1 hsum
  (try walk_at "fold")
  (try refine (let m : Str → Option Value := _; have F' : Fr _ _ _ m := ‹Fr _ _ _ _›; ?_))
  k_steps
  refine go_ ?_
  refine wpAny_call ?_
  rename News _ _ _ _ => N27
  rename Fr _ _ _ _ => F27
  refine (let R27 : Led := (T2, ({ cls := .type "tuple", data := .seq #[.int (3 * (b : Int) - (nm : Nat)) t21, .int 0 t22] } : Obj)) :: (L' + 1 + 1 + 1 + 1 + 1, o3b) :: (L' + 1 + 1 + 1 + 1, o4b) :: (EL, W.listOf ve.toArray ne) :: (KL, W.listOf vk.toArray nk) :: (FL, W.listOf #[] 0) :: (G, W.listOf gs.toArray gn) :: (c2, q2) :: (c1, q1) :: (177, tabObj #[rawInt 185, rawInt 4, .ref c1, rawInt 189, rawInt 13, .ref c2]) :: (L' + 1 + 1 + 1, o5b) :: (DL, W.listOf ds.toArray ds.length) :: (L' + 1 + 1, o6b) :: (L' + 1, o7b) :: (L' + 1 + 1 + 1 + 1 + 1 + 1 + 1, o1) :: (L' + 1 + 1 + 1 + 1 + 1 + 1, o2) :: (45, tabObj t45) :: X; ?_)
  replace N27 : News g' L' _ ([(D9, W.listOf ys.toArray ys.length), (38, tabObj #[])] ++ R27) := news_blk [[_], [_], [_], [_], [_], [_], [_], [_], [_], [_], [_], [_], [_], [_], [_], [_], [_], [_], [_], [_], _] [11, 18, 0, 1, 2, 4, 5, 6, 7, 8, 9, 10, 12, 13, 14, 15, 16, 17, 19, 20] N27
  have o6m : ((L' + 1 + 1, o6b) : Addr × Obj) ∈ R27 := List.mem_of_getElem? (i := 12) rfl
  have o7m : ((L' + 1, o7b) : Addr × Obj) ∈ R27 := List.mem_of_getElem? (i := 13) rfl
  have hX5 : ∀ q ∈ X, ∀ p ∈ ([(D9, W.listOf ys.toArray ys.length), (38, tabObj #[])] : Led), q.2 ≠ p.2 ∨ q.1 ≠ p.1 := fun q hq =>
    fcons (.inr (hXM q hq)) (fcons (.inr (by have z := hXL q hq; k_ne)) (fnil))
  have hTL : ∀ (a b : Value) (zs : Array Value) (n : Nat), ({ cls := .type "tuple", data := .seq #[a, b] } : Obj) ≠ W.listOf zs n := fun a b zs n => tup_ne_list
  refine c_most rfl ⟨B', F27, X', T', rfl, (room hd (by decide) : dp + 1 + 36 < recursionLimit), (room hu (by decide) : un + 3 + 240 < cLine)⟩ N27 (hap_of' N27 (by (((try dsimp only [List.eraseIdx]); (repeat' (first | exact fnil | with_reducible exact hX5 | (refine fcons ?_ ?_) | exact hX5)); all_goals first | exact .inl tup_ne_list | exact .inl (Ne.symm tup_ne_list) | exact .inl (code_ne_tab0 (by assumption)) | exact .inl (Ne.symm (code_ne_tab0 (by assumption))) | exact .inl (by with_reducible assumption) | exact .inl (Ne.symm (by with_reducible assumption)) | (first | exact .inr (by with_reducible assumption) | exact .inr (Ne.symm (by with_reducible assumption)) | exact .inl (cell_ne_code (by assumption) (by assumption)) | exact .inl (Ne.symm (cell_ne_code (by assumption) (by assumption))) | exact .inl (seq_ne_code (by assumption)) | exact .inl (Ne.symm (seq_ne_code (by assumption))) | exact .inl (cell_ne_seq (by assumption)) | exact .inl (Ne.symm (cell_ne_seq (by assumption))) | exact .inl (cell_ne_tab (by assumption)) | exact .inl (Ne.symm (cell_ne_tab (by assumption))) | (refine .inl ?_; intro e; cases e; done) | exact .inr (by k_ne)))))) hys (by rw [List.length_map, hxl]) (fun m hm => by
    walk_at "open"
    obtain ⟨x, _, rfl⟩ := List.mem_map.mp hm
    walk_at "shut"
    have := mk7_cases x
    lia) (by have := hb.ok.1; lia) (by have := hb.ok.2.1; lia) (Ne.symm hM38) (fun v tv t38 h28 tk28 hv1 hv2 F28 N28 => ?_)
  walk_at "open"
  obtain ⟨hv0, hv100, hvs⟩ := hlt v hv1 hv2
  walk_at "shut"
  (try walk_at "red")
  clear N27 F27
  exact (by
  (try walk_at "fold")
  (try refine (let m : Str → Option Value := _; have F' : Fr _ _ _ m := ‹Fr _ _ _ _›; ?_))
  k_steps
  refine go_ ?_
  refine wpAny_call ?_
  rename News _ _ _ _ => N29
  rename Fr _ _ _ _ => F29
  have hsv : (hosts : Int) - ((b ^ b : Nat) : Int) = (hosts : Int) - (sb : Int) := by rw [hsb1]
  rw [hsv] at hvs hsh
  have hsx0 : 0 ≤ (hosts : Int) - (sb : Int) := by
    rcases hb with ⟨h1, h2⟩ | ⟨h1, h2⟩ <;> (rw [hsb1, h1, h2]; decide)
  have hsx0' : 0 ≤ ((hosts : Int) - (sb : Int)) * v := Int.mul_nonneg hsx0 hv0
  have hsx1' : ((hosts : Int) - (sb : Int)) * v ≤ 9 * 100 := Int.mul_le_mul (by lia) hv100 (by lia) (by lia)
  refine c_div rfl ⟨B', F29, X', T', rfl, (room hd (by decide) : dp + 1 + 3 < recursionLimit), (room hu (by decide) : un + 3 + 20 < cLine)⟩ N29 (by lia) (by lia) (by lia) (by lia) (Int.ofNat_nonneg _) hbl (fun T3 t31 t32 h30 tk30 F30 N30 => ?_)
  (try walk_at "red")
  clear N29 F29 hsx0' hsx1'
  (try walk_at "fold")
  (try refine (let m : Str → Option Value := _; have F' : Fr _ _ _ m := ‹Fr _ _ _ _›; ?_))
  k_steps
  refine go_ ?_
  rename News _ _ _ _ => N31
  rename Fr _ _ _ _ => F31
  clear hTL
  dsimp only [List.cons_append, List.nil_append] at N31
  refine (let Lg : Led := _; have N31 : News g' L' _ Lg := N31; ?_)
  have o3m : ((L' + 1 + 1 + 1, o5b) : Addr × Obj) ∈ Lg := List.mem_of_getElem? (i := 13) rfl
  have o4m : ((L' + 1 + 1 + 1 + 1, o4b) : Addr × Obj) ∈ Lg := List.mem_of_getElem? (i := 5) rfl
  have o5m : ((L' + 1 + 1 + 1 + 1 + 1, o3b) : Addr × Obj) ∈ Lg := List.mem_of_getElem? (i := 4) rfl
  have o6m : ((L' + 1 + 1, o6b) : Addr × Obj) ∈ Lg := List.mem_of_getElem? (i := 15) rfl
  have o7m : ((L' + 1, o7b) : Addr × Obj) ∈ Lg := List.mem_of_getElem? (i := 16) rfl
  have oGm : ((G, W.listOf gs.toArray gn) : Addr × Obj) ∈ Lg := List.mem_of_getElem? (i := 9) rfl
  have oEm : ((EL, W.listOf ve.toArray ne) : Addr × Obj) ∈ Lg := List.mem_of_getElem? (i := 6) rfl
  have oKm : ((KL, W.listOf vk.toArray nk) : Addr × Obj) ∈ Lg := List.mem_of_getElem? (i := 7) rfl
  refine Assign_ListComp_2 (F₀ := by k_asm) rfl (by with_unfolding_all rfl) (by with_unfolding_all rfl) (by decide) (by rfl) (by decide) (by rfl) (by rfl) (by decide +kernel) rfl (by rfl) ?_ (fun _ => rfl) (fun _ _ => rfl)
  (try walk_at "fold")
  (try refine (let m : Str → Option Value := _; have F' : Fr _ _ _ m := ‹Fr _ _ _ _›; ?_))
  k_steps
  refine go_ ?_
  refine Src2.range (by rfl) (by k_asm) (by k_asm) (by assumption) (by decide) (n := 6) (by decide) ?_
  intro g32
  refine body_none 3 (by decide) (rest2 ?_ ?_ ?_ ?_)
  · rintro I3 i3 v3 ys3 nw oI3 C oC D m₄ h6 tk6 E6 hi3 hv rq1 hC hx F6 N6 off6 ne6
    walk_at "open"
    obtain ⟨hH, hys3⟩ := rq1
    walk_at "shut"
    replace off6 := has_off hH off6
    replace N6 := has_news hH N6
    clear hH
    (try walk_at "red")
    (try walk_at "fold")
    (try refine (let m : Str → Option Value := _; have F' : Fr _ _ _ m := ‹Fr _ _ _ _›; ?_))
    k_steps
    refine go_ ?_
    exact Open2.intro (by assumption) (by decide) (by decide) (by k_asm) (by k_asm) _ (fun _ h => h) off6 trivial ⟨Has.refl _, hys3⟩
  · rintro I3 i3 j3 v3 t3 ys3 nw I4 oI4 oI3 C oC D m₄ h6 tk6 E6 hi3 hj3 rq1 rq2 hC hx1 hx2 F6 N6 off6
    walk_at "open"
    obtain ⟨t33, rfl⟩ := rq1
    obtain ⟨hH, hys3⟩ := rq2
    walk_at "shut"
    replace off6 := has_offA hH off6
    replace N6 := has_news4 hH N6
    clear hH
    walk_at "open"
    obtain ⟨x, hx⟩ : ∃ x, xs[i3]? = some x := ⟨_, List.getElem?_eq_getElem (by lia)⟩
    obtain ⟨tg, hgi⟩ := guest_get hgs (by rw [hgl, hxl]) hx
    obtain ⟨e3v, he3⟩ : ∃ e, (dinner b (hosts : Int) (List.map lkOf xs)).earned[j3]? = some e := ⟨_, List.getElem?_eq_getElem (by lia)⟩
    obtain ⟨q3v, hq3⟩ : ∃ q, (dinner b (hosts : Int) (List.map lkOf xs)).kept[i3]? = some q := ⟨_, List.getElem?_eq_getElem (by lia)⟩
    walk_at "shut"
    have he0 := heb e3v (List.mem_of_getElem? he3)
    have hq0 := hkb q3v (List.mem_of_getElem? hq3)
    walk_at "open"
    obtain ⟨te3, hve3⟩ := ints_get hve he3
    obtain ⟨tq3, hvk3⟩ := ints_get hvk hq3
    walk_at "shut"
    have hj0 : 0 ≤ 0 + (j3 : Int) := by lia
    have hj3' : 0 + (j3 : Int) < 3 := by lia
    have hbk2 : (b : Int) ≤ 2 := by have := hb.ok.2.1; lia
    refine wpAny_tests_one ?_
    (try walk_at "fold")
    (try refine (let m : Str → Option Value := _; have F' : Fr _ _ _ m := ‹Fr _ _ _ _›; ?_))
    have gM : Halt "subscriptTail Name Name ref int" := trivial
    k_steps
    refine go_ ?_
    clear gM
    k_dflt (refine item_at (by k_asm) (by k_mem) (by assumption) (by lia) (by lia) ?_ (by with_unfolding_all rfl))
    (try walk_at "red")
    k_steps
    · refine go_ ?_
      exact End2.intro (by k_asm) (by k_asm) _ (fun _ h => h) off6 trivial ⟨Has.refl _, hys3⟩
    · rename _ < _ => hless
      rename List.isEmpty _ = false => hz
      exfalso
      walk_at "open"
      obtain ⟨c, hc1, hc2⟩ := in_item (lkOf_LK x) hj3 hz
      walk_at "shut"
      have z := hsh i3 j3 x hx c hc1 hc2 e3v q3v he3 hq3
      (try rw [getD_at he3, getD_at hq3] at hless)
      exact absurd hless (Int.not_lt.mpr z)
    · refine go_ ?_
      exact End2.intro (by k_asm) (by k_asm) _ (fun _ h => h) off6 trivial ⟨Has.refl _, hys3⟩
  · exact fun _ _ _ _ h => h
  rintro ys3 nw rq1
  walk_at "open"
  obtain ⟨hH, rfl⟩ := rq1
  walk_at "shut"
  rename News _ _ _ _ => N31
  rename Fr _ _ _ _ => F31
  unfold LCg.FinA
  intro SH h33 tk33 F33 N33 o33
  have hSH : ∀ p ∈ X, @Ne Nat p.1 SH := fun p hp => off1_mem o33 p (hH p (List.mem_of_mem_drop (i := 20) hp))
  replace N33 := has_news1 hH N33
  dsimp only [Lg] at N33
  clear hH o33 N31 F31 hsh
  (try walk_at "red")
  exact (by
  (try walk_at "fold")
  (try refine (let m : Str → Option Value := _; have F' : Fr _ _ _ m := ‹Fr _ _ _ _›; ?_))
  k_steps
  refine go_ ?_
  refine wpAny_call ?_
  rename News _ _ _ _ => N34
  rename Fr _ _ _ _ => F34
  rw [show LCg.lst [] = W.listOf #[] 0 from rfl] at N34
  refine (let S0 : Led := [(SH, W.listOf #[] 0), (T3, ({ cls := .type "tuple", data := .seq #[.int ((((hosts : Int) - (sb : Int)) * v + (hosts : Int) - 1).fdiv (hosts : Int)) t31, .int ((((hosts : Int) - (sb : Int)) * v + (hosts : Int) - 1).fmod (hosts : Int)) t32] } : Obj)), (D9, W.listOf ys.toArray ys.length), (T2, ({ cls := .type "tuple", data := .seq #[.int (3 * (b : Int) - (nm : Nat)) t21, .int 0 t22] } : Obj)), (FL, W.listOf #[] 0), (DL, W.listOf ds.toArray ds.length), (L' + 1 + 1, o6b), (L' + 1, o7b), (38, tabObj t38), (45, tabObj t45)]; ?_)
  replace N34 : News g' L' _ ([(c2, q2), (c1, q1), (177, tabObj #[rawInt 185, rawInt 4, .ref c1, rawInt 189, rawInt 13, .ref c2])] ++ ((L' + 1 + 1 + 1 + 1 + 1 + 1 + 1, o1) :: (L' + 1 + 1 + 1 + 1 + 1 + 1, o2) :: (S0 ++ X))) := news_blk [[_], [_], [_], [_], [_], [_], [_], [_], [_], [_], [_], [_], [_], [_], [_], [_], [_], [_], [_], [_], [_], _] [11, 12, 13, 18, 19, 0, 1, 2, 4, 9, 15, 16, 17, 3, 20, 21] N34
  have hX7 : ∀ q ∈ X, ∀ p ∈ ([(c2, q2), (c1, q1), (177, tabObj #[rawInt 185, rawInt 4, .ref c1, rawInt 189, rawInt 13, .ref c2])] : Led), q.2 ≠ p.2 ∨ q.1 ≠ p.1 := fun q hq =>
    fcons (.inr (hXo q hq).1) (fcons (.inr (hXo q hq).2.1) (fcons (.inr (hXo q hq).2.2) (fnil)))
  refine c_foe rfl ⟨B', F34, X', T', rfl, (room hd (by decide) : dp + 1 + 40 < recursionLimit), (room hu (by decide) : un + 3 + 300 < cLine)⟩ N34 (hap_of' N34 (by (((try dsimp only [List.eraseIdx]); (repeat' (first | exact fnil | with_reducible exact hX7 | (refine fcons ?_ ?_) | exact hX7)); all_goals first | exact .inl tup_ne_list | exact .inl (Ne.symm tup_ne_list) | exact .inl (code_ne_tab0 (by assumption)) | exact .inl (Ne.symm (code_ne_tab0 (by assumption))) | exact .inl (by with_reducible assumption) | exact .inl (Ne.symm (by with_reducible assumption)) | (first | exact .inr (by with_reducible assumption) | exact .inr (Ne.symm (by with_reducible assumption)) | exact .inl (cell_ne_code (by assumption) (by assumption)) | exact .inl (Ne.symm (cell_ne_code (by assumption) (by assumption))) | exact .inl (seq_ne_code (by assumption)) | exact .inl (Ne.symm (seq_ne_code (by assumption))) | exact .inl (cell_ne_seq (by assumption)) | exact .inl (Ne.symm (cell_ne_seq (by assumption))) | exact .inl (cell_ne_tab (by assumption)) | exact .inl (Ne.symm (cell_ne_tab (by assumption))) | (refine .inl ?_; intro e; cases e; done) | exact .inr (by k_ne)))))) h12 k1 k2 hb (fun T OL SL vO vS nO nS t35 offs sts offled h35 tk35 hoff5 hvS hol hin hperm F35 N35 => ?_)
  (try walk_at "red")
  clear N34 F34 hX7
  dsimp only [List.cons_append, List.nil_append] at N35
  (try walk_at "fold")
  (try refine (let m : Str → Option Value := _; have F' : Fr _ _ _ m := ‹Fr _ _ _ _›; ?_))
  k_steps
  refine go_ ?_
  rename News _ _ _ _ => N36
  rename Fr _ _ _ _ => F36
  walk_at "open"
  obtain ⟨ofl, hofs, hoff6, hofS⟩ := offs_trim hoff5 hol hin
  walk_at "shut"
  have N36a : News g' L' _ ((L' + 1 + 1 + 1 + 1 + 1 + 1 + 1, o1) :: (L' + 1 + 1 + 1 + 1 + 1 + 1, o2) :: (OL, W.listOf vO.toArray nO) :: (SL, W.listOf vS.toArray nS) :: (c2, q2) :: (c1, q1) :: (177, tabObj #[rawInt 185, rawInt 4, .ref c1, rawInt 189, rawInt 13, .ref c2]) :: (offled ++ (S0 ++ X))) := news_blk [[_], [_], [_], _, [_], [_], [_], [_], [_], _] [7, 8, 1, 2, 4, 5, 6, 3, 9] N36
  replace N36 : News g' L' _ ((L' + 1 + 1 + 1 + 1 + 1 + 1 + 1, o1) :: (L' + 1 + 1 + 1 + 1 + 1 + 1, o2) :: (OL, W.listOf vO.toArray nO) :: (SL, W.listOf vS.toArray nS) :: (c2, q2) :: (c1, q1) :: (177, tabObj #[rawInt 185, rawInt 4, .ref c1, rawInt 189, rawInt 13, .ref c2]) :: (ofl ++ (S0 ++ X))) := news_sub N36a (consS (consS (consS (consS (consS (consS (consS (appS hofs))))))))
  clear N36a
  have hYn : ∀ c : Addr, L' + 1 + 1 < c → c ≤ L' + 1 + 1 + 1 + 1 + 1 + 1 + 1 → ∀ p ∈ ofl ++ (S0 ++ X), p.1 ≠ c ∨ NotCell p.2 := fun c hc0 hc =>
    fapp (fun p hp => .inr (hofS p hp).notCell) (fapp (fcons (.inr notCell_list) (fcons (.inr notCell_seq) (fcons (.inr notCell_list) (fcons (.inr notCell_seq) (fcons (.inr notCell_list) (fcons (.inr notCell_list) (fcons (.inl (Nat.ne_of_lt hc0)) (fcons (.inl (Nat.ne_of_lt (Nat.lt_of_succ_lt hc0))) (fcons (.inr notCell_tab) (fcons (.inr notCell_tab) fnil)))))))))) fun p hp => .inl (Nat.ne_of_gt (Nat.lt_of_le_of_lt hc (hXL p hp))))
  have hY6 := hYn (L' + 1 + 1 + 1 + 1 + 1 + 1) (by lia) (Nat.le_succ _)
  have hY7 := hYn (L' + 1 + 1 + 1 + 1 + 1 + 1 + 1) (by lia) (Nat.le_refl _)
  refine store_at 1 (c := L' + 1 + 1 + 1 + 1 + 1 + 1) F36 N36 rfl rfl d2 (by (((try dsimp only [List.eraseIdx]); (repeat' (first | exact fnil | with_reducible exact hY6 | (refine fcons ?_ ?_) | exact hY6)); all_goals first | exact .inr notCell_list | exact .inr notCell_tab | exact .inr notCell_seq | exact .inr (notCell_code (by assumption)) | exact .inr (by with_reducible assumption) | exact .inl (by with_reducible assumption) | exact .inl (by k_ne)))) (fun h37 o2b F37 N37 e2 => ?_) rfl rfl
  dsimp only [List.eraseIdx] at N37
  clear d2 N36 F36 hoff5 hofs
  (try walk_at "red")
  (try walk_at "fold")
  (try refine (let m : Str → Option Value := _; have F' : Fr _ _ _ m := ‹Fr _ _ _ _›; ?_))
  k_steps
  refine go_ ?_
  rename News _ _ _ _ => N38
  rename Fr _ _ _ _ => F38
  refine store_at 1 (c := L' + 1 + 1 + 1 + 1 + 1 + 1 + 1) F38 N38 rfl rfl d1 (by (((try dsimp only [List.eraseIdx]); (repeat' (first | exact fnil | with_reducible exact hY7 | (refine fcons ?_ ?_) | exact hY7)); all_goals first | exact .inr notCell_list | exact .inr notCell_tab | exact .inr notCell_seq | exact .inr (notCell_code (by assumption)) | exact .inr (by with_reducible assumption) | exact .inl (by with_reducible assumption) | exact .inl (by k_ne)))) (fun h39 o1b F39 N39 e1 => ?_) rfl rfl
  dsimp only [List.eraseIdx] at N39
  clear d1 N38 F38 hY6 hY7 hYn
  refine (let R39 : Led := _; have N39 : News g' L' _ R39 := N39; ?_)
  (try walk_at "red")
  have hR39 : ∀ p ∈ ofl ++ (S0 ++ X), p ∈ R39 := fun p hp => List.mem_of_mem_drop (i := 7) hp
  have hXsub : ∀ p ∈ X, p ∈ R39 := fun p hp => hR39 p (List.mem_append_right ofl (List.mem_append_right S0 hp))
  have hS0 : ∀ p ∈ S0, p ∈ R39 := fun p hp => hR39 p (List.mem_append_right ofl (List.mem_append_left X hp))
  have hlen := hb.len hperm
  have hsl2 : 2 ≤ sts.length := by rw [hlen]; exact hb.ok.2.2.2.2.2
  have zO := refs_slim hoff6 (nonempty_of (by rw [hol]; exact hsl2))
  have zS := strs_slim hvS (nonempty_of (by rw [List.length_map]; exact hsl2))
  have zT3 : ∀ p ∈ X, @Ne Nat p.1 T3 := slim_ne hXs N39 hXsub (hS0 _ (.tail _ (.head _))) pair_slim.1 pair_slim.2
  have zT2 : ∀ p ∈ X, @Ne Nat p.1 T2 := slim_ne hXs N39 hXsub (hS0 _ (.tail _ (.tail _ (.tail _ (.head _))))) pair_slim.1 pair_slim.2
  have zOL : ∀ p ∈ X, @Ne Nat p.1 OL := slim_ne hXs N39 hXsub (by k_mem) zO.1 zO.2
  have zSL : ∀ p ∈ X, @Ne Nat p.1 SL := slim_ne hXs N39 hXsub (by k_mem) zS.1 zS.2
  have zof : ∀ q ∈ ofl, ∀ p ∈ X, @Ne Nat p.1 q.1 := fun q hq => (hofS q hq).ne_X hXs N39 hXsub (hR39 _ (List.mem_append_left _ hq))
  refine (let rst : Led := (L' + 1 + 1 + 1 + 1 + 1 + 1 + 1, o1b) :: (L' + 1 + 1 + 1 + 1 + 1 + 1, o2b) :: (OL, W.listOf vO.toArray nO) :: (SL, W.listOf vS.toArray nS) :: (S0 ++ ofl); ?_)
  have hrX : ∀ q ∈ rst, ∀ p ∈ X, q.1 ≠ p.1 :=
    fcons (fun p hp => Nat.ne_of_lt (hXL p hp)) (fcons (fun p hp => Nat.ne_of_lt (Nat.lt_of_succ_lt (hXL p hp))) (fcons (fun p hp => Ne.symm (zOL p hp)) (fcons (fun p hp => Ne.symm (zSL p hp)) (fapp (fcons (fun p hp => Ne.symm (hSH p hp)) (fcons (fun p hp => Ne.symm (zT3 p hp)) (fcons (fun p hp => Ne.symm (hXM p hp)) (fcons (fun p hp => Ne.symm (zT2 p hp)) (fcons (fun p hp => Ne.symm (hXF p hp)) (fcons (fun p hp => Ne.symm (hXD p hp)) (fcons (fun p hp => by have z := hXL p hp; k_ne) (fcons (fun p hp => by have z := hXL p hp; k_ne) (fcons (fun p hp => by have z := hXL p hp; k_ne) (fcons (fun p hp => by have z := hXL p hp; k_ne) fnil)))))))))) fun q hq p hp => Ne.symm (zof q hq p hp)))))
  have hrT : ∀ q ∈ rst, ∀ p ∈ tabLed c1 c2 q1 q2, q.2 ≠ p.2 ∨ q.1 ≠ p.1 := by
    have hYt : ∀ q ∈ ofl, ∀ p ∈ tabLed c1 c2 q1 q2, q.2 ≠ p.2 ∨ q.1 ≠ p.1 := fun q hq => by
      unfold tabLed
      exact fcons (.inl ((hofS q hq).ne_code k2)) (fcons (.inl ((hofS q hq).ne_code k1)) (fcons (.inl (hofS q hq).ne_tab) (fnil)))
    unfold tabLed at hYt ⊢
    refine fcons ?_ (fcons ?_ (fcons ?_ (fcons ?_ (fapp ?_ hYt)))) <;> (((try dsimp only [List.eraseIdx]); (repeat' (first | exact fnil | with_reducible exact hYt | (refine fcons ?_ ?_) | exact hYt)); all_goals first | exact .inl tup_ne_list | exact .inl (Ne.symm tup_ne_list) | exact .inl (code_ne_tab0 (by assumption)) | exact .inl (Ne.symm (code_ne_tab0 (by assumption))) | exact .inl (by with_reducible assumption) | exact .inl (Ne.symm (by with_reducible assumption)) | (first | exact .inr (by with_reducible assumption) | exact .inr (Ne.symm (by with_reducible assumption)) | exact .inl (cell_ne_code (by assumption) (by assumption)) | exact .inl (Ne.symm (cell_ne_code (by assumption) (by assumption))) | exact .inl (seq_ne_code (by assumption)) | exact .inl (Ne.symm (seq_ne_code (by assumption))) | exact .inl (cell_ne_seq (by assumption)) | exact .inl (Ne.symm (cell_ne_seq (by assumption))) | exact .inl (cell_ne_tab (by assumption)) | exact .inl (Ne.symm (cell_ne_tab (by assumption))) | (refine .inl ?_; intro e; cases e; done) | exact .inr (by k_ne))))
  have N40 : News g' L' _ (X ++ tabLed c1 c2 q1 q2 ++ rst) := news_as X _ _ (news_blk [[_], [_], [_], [_], [_], [_], [_], _, _, _] [9, 4, 5, 6, 0, 1, 2, 3, 8, 7] N39)
  clear N39 zO zS zT3 zT2 zOL zSL zof hXsub hXM hXF hXD hSH hXK hXE hXG hXs hXo hX5
  rw [← hXe] at N40 hrX
  clear hXe hXL hXc hX4
  have hhap := hap_own hk N40 hrX hrT
  clear hrX hrT
  dsimp only [Mch.own, tabLed, List.cons_append, List.nil_append] at N40
  exact (by
  (try walk_at "fold")
  (try refine (let m : Str → Option Value := _; have F' : Fr _ _ _ m := ‹Fr _ _ _ _›; ?_))
  have hM : Halt "callWith ref" := trivial
  k_steps
  refine go_ ?_
  clear hM
  (k_dflt (refine' callWith_K0 (Frag.In.keeps X' (Fr.keep (by k_asm))) ?zqk ?_; (case zqk => k_is); k_whole))
  (try walk_at "red")
  k_steps
  refine go_ ?_
  refine wpAny_call ?_
  rename News _ _ _ _ => N41
  rename Fr _ _ _ _ => F41
  refine c_tok rfl ⟨B', F41, X', T', rfl, (room hd (by decide) : dp + 1 + 16 < recursionLimit), (room hu (by decide) : un + 3 + 100 < cLine)⟩ (rest := rst) (show News g' L' _ (k.own w.params (1 + (ln : Int)) tl' [] pn pos' tp' ++ tabLed c1 c2 q1 q2 ++ rst) from N41) hhap hk hk1 k1 hoff (hdrop ▸ hend) hpos (by show (textOf xs).toArray.size ≤ 100; rw [List.size_toArray]; lia) (by lia) (fun pos3 tt tp3 tl3 h42 tk42 _ _ F42 N42 => ?_)
  clear N41 F41 hhap
  dsimp only [Mch.own, tabLed, List.cons_append, List.nil_append] at N42
  (try walk_at "red")
  have hl7 : (1 + (ln : Int) + (lnl : Int) == 7) = true := by rw [show 1 + (ln : Int) + (lnl : Int) = 7 by lia]; rfl
  (try walk_at "fold")
  (try refine (let m : Str → Option Value := _; have F' : Fr _ _ _ m := ‹Fr _ _ _ _›; ?_))
  k_steps
  refine go_ ?_
  rename News _ _ _ _ => N43
  rename Fr _ _ _ _ => F43
  replace N43 : News g' L' _ ((177, tabObj #[rawInt 185, rawInt 4, .ref c1, rawInt 189, rawInt 13, .ref c2]) :: rst) := news_blk [[_], [_], [_], [_], [_], [_], [_], [_], [_], [_], [_], [_], _] [11, 12] N43

  clear hl7
  have rSH : ((SH, W.listOf #[] 0) : Addr × Obj) ∈ rst := List.mem_of_getElem? (i := 4) rfl
  have rT3 : ((T3, ({ cls := .type "tuple", data := .seq #[.int ((((hosts : Int) - (sb : Int)) * v + (hosts : Int) - 1).fdiv (hosts : Int)) t31, .int ((((hosts : Int) - (sb : Int)) * v + (hosts : Int) - 1).fmod (hosts : Int)) t32] } : Obj)) : Addr × Obj) ∈ rst := List.mem_of_getElem? (i := 5) rfl
  have rD9 : ((D9, W.listOf ys.toArray ys.length) : Addr × Obj) ∈ rst := List.mem_of_getElem? (i := 6) rfl
  have rT2 : ((T2, ({ cls := .type "tuple", data := .seq #[.int (3 * (b : Int) - (nm : Nat)) t21, .int 0 t22] } : Obj)) : Addr × Obj) ∈ rst := List.mem_of_getElem? (i := 7) rfl
  have rFL : ((FL, W.listOf #[] 0) : Addr × Obj) ∈ rst := List.mem_of_getElem? (i := 8) rfl
  have rDL : ((DL, W.listOf ds.toArray ds.length) : Addr × Obj) ∈ rst := List.mem_of_getElem? (i := 9) rfl
  have r6 : ((L' + 1 + 1, o6b) : Addr × Obj) ∈ rst := List.mem_of_getElem? (i := 10) rfl
  have r7 : ((L' + 1, o7b) : Addr × Obj) ∈ rst := List.mem_of_getElem? (i := 11) rfl
  refine LCg.CompSrc.ledger (by rfl) (by k_asm) (by k_asm) (by k_mem) (by rw [List.size_toArray, hds.length, hxl, sizeLine_eq]; decide) ?_
  intro g9
  refine comp_all (JM7 _ xs) _ ?_ ?_ (Nat.zero_add _) ⟨Has.refl _, .nil⟩
  · rintro j zs nw v I2 oI2 C oC D2 m₂ h5 tk5 E5 hj hv rq1 hC hxx F5 N5 off5 ne5
    walk_at "open"
    obtain ⟨hH, hzs⟩ := rq1
    walk_at "shut"
    replace off5 := has_off hH off5
    replace N5 := has_news hH N5
    clear hH
    walk_at "open"
    obtain ⟨mm, tm, rfl, hmj⟩ := ints_at hds (by simpa using hv)
    walk_at "shut"
    have hmb := hxb mm (List.mem_of_getElem? hmj)
    (try walk_at "fold")
    (try refine (let m : Str → Option Value := _; have F' : Fr _ _ _ m := ‹Fr _ _ _ _›; ?_))
    k_steps
    refine go_ ?_
    exact LCg.CompEnd.intro (by k_asm) (by k_asm) _ (fun _ h => h) off5 (.inr ⟨_, by k_mem, rfl, _, rfl⟩) ⟨Has.refl _, by rw [take_mk7 hmj]; exact hzs.append (.cons _ _ .nil)⟩
  rintro zs nw rq1
  walk_at "open"
  obtain ⟨hH, hzs⟩ := rq1
  walk_at "shut"
  unfold LCg.FinE
  intro D8 h8 tk8 F8 N8 o8
  replace N8 := has_news1 hH N8
  clear hH o8 N43 F43
  rw [show List.take (ds.toArray.size) xs = xs from List.take_of_length_le (by rw [List.size_toArray, hds.length]; exact Nat.le_refl _)] at hzs
  have hcau : (((asum hosts b b : Nat) : Int) == (b : Int) * ((hosts : Int) - (sb : Int))) = true := by
    rw [hsb1]
    rcases hb with ⟨h1, h2⟩ | ⟨h1, h2⟩ <;> (rw [h1, h2]; decide)
  have hvOl : vO.length = b * hosts := by rw [hoff6.1, hol, hlen]
  have hvSl : vS.length = b * hosts := by rw [hvS.length, List.length_map, hlen]
  have hbh18 : b * hosts ≤ 18 := hb.ok.2.2.2.2.1
  have hvO1 : vO.length ≤ 1000 := by lia
  have hvS1 : vS.length ≤ 1000 := by lia
  have hvOS : ((vO.length : Int) == (vS.length : Int)) = true := by rw [hvOl, hvSl]; exact beq_self_eq_true _
  have hvSB : ((vS.length : Int) == (b : Int) * (hosts : Int)) = true := by rw [hvSl, Int.natCast_mul]; exact beq_self_eq_true _
  (try walk_at "red")
  exact (by
  (try walk_at "fold")
  (try refine (let m : Str → Option Value := _; have F' : Fr _ _ _ m := ‹Fr _ _ _ _›; ?_))
  k_steps
  refine go_ ?_
  (k_dflt (refine len_led (by k_asm) (by k_mem) (by assumption) ?_); intro _ _)
  (try walk_at "red")
  k_steps
  refine go_ ?_
  (k_dflt (refine len_led (by k_asm) (by k_mem) (by assumption) ?_); intro _ _)
  (try walk_at "red")
  have gM : Halt "eval ListComp" := trivial
  k_steps
  refine go_ ?_
  clear gM
  k_dflt (refine LCt.ListComp_T (F₀ := by k_asm) (by with_unfolding_all rfl) (by decide) (by rfl) (by decide) (by rfl) ?_)
  (try walk_at "red")
  k_steps
  refine go_ ?_
  (k_dflt (refine len_led (by k_asm) (by k_mem) (by assumption) ?_); intro _ _)
  (try walk_at "red")
  k_steps
  refine go_ ?_
  rename News _ _ _ _ => N43
  rename Fr _ _ _ _ => F43
  replace N43 : News g' L' _ ((L' + 1, o7b) :: (L' + 1 + 1 + 1 + 1 + 1 + 1 + 1, o1b) :: (L' + 1 + 1 + 1 + 1 + 1 + 1, o2b) :: (OL, W.listOf vO.toArray nO) :: (SL, W.listOf vS.toArray nS) :: (38, tabObj t38) :: (45, tabObj t45) :: (177, tabObj #[rawInt 185, rawInt 4, .ref c1, rawInt 189, rawInt 13, .ref c2]) :: ofl) := news_blk [[_], [_], [_], [_], [_], [_], [_], [_], [_], [_], [_], [_], [_], [_], [_], [_], [_], [_], [_], _] [16, 5, 6, 7, 8, 17, 18, 4, 19] N43
  refine (let Lz : Led := _; have N43 : News g' L' _ Lz := N43; ?_)
  have z1 : ((L' + 1 + 1 + 1 + 1 + 1 + 1 + 1, o1b) : Addr × Obj) ∈ Lz := List.mem_of_getElem? (i := 1) rfl
  have z2 : ((L' + 1 + 1 + 1 + 1 + 1 + 1, o2b) : Addr × Obj) ∈ Lz := List.mem_of_getElem? (i := 2) rfl
  have zOL : ((OL, W.listOf vO.toArray nO) : Addr × Obj) ∈ Lz := List.mem_of_getElem? (i := 3) rfl
  have zSL : ((SL, W.listOf vS.toArray nS) : Addr × Obj) ∈ Lz := List.mem_of_getElem? (i := 4) rfl
  have hLz : ∀ p ∈ ofl, p ∈ Lz := fun p hp => List.mem_of_mem_drop (i := 8) hp
  have hvSz : vS.length ≤ sizeLine := by rw [sizeLine_eq]; lia
  refine LCt.CompSrcT.range (by rfl) (by k_asm) (by k_asm) (by assumption) (range_ok (by lia)).1 (range_ok (by lia)).2 hvSz ?_
  intro g9
  refine compT_all (fun _ ys nw => JE _ ys nw) _ ?_ ?_ (Nat.zero_add _) ⟨Has.refl _, rfl⟩
  · rintro j zs nw v I2 oI2 C oC D2 m₂ h5 tk5 E5 hj rq1 rq2 hC hxx F5 N5 off5 ne5
    walk_at "open"
    obtain ⟨tj, rfl⟩ := rq1
    obtain ⟨hH, hzs⟩ := rq2
    walk_at "shut"
    replace off5 := has_off hH off5
    replace N5 := has_news hH N5
    clear hH
    walk_at "open"
    obtain ⟨c, os, a3, xs3, n3, hc, hco, hvo, ham, hxs3⟩ := offs_get hoff6 hol hin (j := j) (by lia)
    obtain ⟨ts, hvs3⟩ := strs_get hvS (j := j) (x := one c) (by rw [List.getElem?_map, hc]; rfl)
    walk_at "shut"
    have hany : (((os.map one).any fun x => x == one c)) = true := by rw [any_one]; exact List.elem_iff.mpr hco
    have hj18 : j < 18 := by lia
    clear hc hco
    replace N5 := news_sub (n' := (a3, W.listOf (List.toArray xs3) n3) :: (I2, oI2) :: (C, oC) :: (D2, LCg.lst zs) :: Lz) N5 (fun p hp => by
      rcases List.mem_cons.mp hp with rfl | hp
      · exact .tail _ (.tail _ (.tail _ (hLz _ ham)))
      · exact hp)
    (try walk_at "fold")
    (try refine (let m : Str → Option Value := _; have F' : Fr _ _ _ m := ‹Fr _ _ _ _›; ?_))
    have gM : Halt "subscriptTail Name Name ref int" := trivial
    k_steps
    refine go_ ?_
    k_dflt (refine item_at (by k_asm) (by k_mem) (by assumption) (by lia) (by lia) ?_ (by with_unfolding_all rfl))
    (try walk_at "red")
    k_steps
    refine go_ ?_
    clear gM
    k_dflt (refine item_at (by k_asm) (by k_mem) (by assumption) (by lia) (by lia) ?_ (by with_unfolding_all rfl))
    (try walk_at "red")
    k_steps
    refine go_ ?_
    exact LCg.CompEnd.intro (by k_asm) (by k_asm) _ (fun p hp => List.mem_cons_of_mem _ hp) off5 trivial ⟨Has.refl _, hzs⟩
  rintro zs nw rq1
  walk_at "open"
  obtain ⟨hH, rfl⟩ := rq1
  walk_at "shut"
  unfold LCg.FinE
  intro D8 h8 tk8 F8 N8 o8
  replace N8 := has_news1 hH N8
  clear hH o8 N43 F43
  (try walk_at "red")
  (try walk_at "fold")
  (try refine (let m : Str → Option Value := _; have F' : Fr _ _ _ m := ‹Fr _ _ _ _›; ?_))
  k_steps
  refine go_ ?_
  rename News _ _ _ _ => N44
  rename Fr _ _ _ _ => F44
  refine sorted_N_str F44 N44 (PySem.IsL.isList (n := nS) (N44 (SL, W.listOf vS.toArray nS) (by k_mem)).1) hvS (by lia) (fun h45 vs5 ss5 e5 F45 N45 hS5 hp5 hs5 => ?_)
  clear N44 F44
  (try walk_at "red")
  (try walk_at "fold")
  (try refine (let m : Str → Option Value := _; have F' : Fr _ _ _ m := ‹Fr _ _ _ _›; ?_))
  have gM : Halt "eval ListComp" := trivial
  k_steps
  refine go_ ?_
  clear gM
  k_dflt (refine ListComp_2 (F₀ := by k_asm) (by with_unfolding_all rfl) (by decide) (by rfl) (by decide) (by rfl) (by rfl) (by decide +kernel) ?_ (fun _ => rfl) (fun _ _ => rfl))
  (try walk_at "red")
  k_steps
  refine go_ ?_
  rename News _ _ _ _ => N46
  rename Fr _ _ _ _ => F46
  refine (let Ly : Led := _; have N46 : News g' L' _ Ly := N46; ?_)
  have y7 : ((L' + 1, o7b) : Addr × Obj) ∈ Ly := by k_mem
  have hhl : (hostsL hosts).length = hosts := by simp [hostsL]
  refine Src2.range (by rfl) (by k_asm) (by k_asm) (by assumption) (range_ok (by lia)).1 (range_ok (by lia)).2 ?_
  intro g47
  refine body_rep b (hostsL hosts) ?_ (rest2 ?_ ?_ ?_ ?_)
  · exact Nat.le_trans (Nat.mul_le_mul hh9 hb.ok.2.1) (by decide)
  · rintro I3 i3 v ys3 nw oI3 C oC D m₄ h6 tk6 E6 hi3 hv rq1 hC hx F6 N6 off6 ne6
    walk_at "open"
    obtain ⟨hH, hys3⟩ := rq1
    walk_at "shut"
    replace off6 := has_off hH off6
    replace N6 := has_news hH N6
    clear hH
    (try walk_at "red")
    (try walk_at "fold")
    (try refine (let m : Str → Option Value := _; have F' : Fr _ _ _ m := ‹Fr _ _ _ _›; ?_))
    k_steps
    refine go_ ?_
    refine Open2.intro (by assumption) (range_ok (by have := hb.ok; lia)).1 (range_ok (by have := hb.ok; lia)).2 (by k_asm) (by k_asm) _ (fun _ h => h) off6 trivial ⟨Has.refl _, by rw [List.replicate_zero, List.append_nil]; exact hys3⟩
  · rintro I3 i3 j3 v t3 ys3 nw I4 oI4 oI3 C oC D m₄ h6 tk6 E6 hi3 hj3 rq1 rq2 hC hx1 hx2 F6 N6 off6
    walk_at "open"
    obtain ⟨t33, rfl⟩ := rq1
    obtain ⟨hH, hys3⟩ := rq2
    walk_at "shut"
    replace off6 := has_offA hH off6
    replace N6 := has_news4 hH N6
    clear hH
    have hc0 : 0 ≤ 65 + (0 + (i3 : Int)) := by lia
    have hc1 : 65 + (0 + (i3 : Int)) < 128 := by lia
    refine wpAny_tests_nil ?_
    simp only [if_true]
    (try walk_at "fold")
    (try refine (let m : Str → Option Value := _; have F' : Fr _ _ _ m := ‹Fr _ _ _ _›; ?_))
    k_steps
    refine go_ ?_
    refine End2.intro (by k_asm) (by k_asm) _ (fun _ h => h) off6 trivial (JR.step ⟨Has.refl _, hys3⟩ (by rw [chr_host hi3]) (Has.refl _))
  · intro i3 ys3 nw hi3 hJ
    exact JR.close (by rw [hhl]; exact hi3) hJ
  rintro zs nw rq1
  walk_at "open"
  obtain ⟨hH, hzs⟩ := rq1
  walk_at "shut"
  rw [List.take_of_length_le (by rw [hhl]; exact Nat.le_refl _)] at hzs
  have hss := sorted_is hb hperm hp5 hs5
  subst hss
  unfold LCg.FinE
  intro D8 h8 tk8 F8 N8 o8
  replace N8 := has_news1 hH N8
  clear hH o8 N46 F46
  (try walk_at "red")
  dsimp only [Ly] at N8
  rw [show ∀ (a : Array Value) (n : Nat), seqObj "list" a n = W.listOf a n from fun _ _ => rfl] at N8
  have hEQ := hosts_ok hb
  exact (by
  (try walk_at "fold")
  (try refine (let m : Str → Option Value := _; have F' : Fr _ _ _ m := ‹Fr _ _ _ _›; ?_))
  have hM : Halt "compareOp Eq ref ref" := trivial
  k_steps
  refine go_ ?_
  clear hM
  ((with_reducible show wpAny _ _ (compareOp CmpOp.Eq (Value.ref _) (Value.ref _)) _ _ _); k_dflt (refine' eq_strs ?zqeqN ?zqeqa ?zqeqb ?zqeqi ?zqeqj ?zqeqo ?zqequ ?_; (case zqeqN => k_asm); (case zqeqa => k_mem); (case zqeqb => k_mem); (case zqeqi => with_reducible assumption); (case zqeqj => with_reducible assumption); (case zqeqo => with_reducible assumption); (case zqequ => ke_room)))
  k_steps
  exact kk _ _ ⟨rfl, rfl, rfl, ⟨_, by k_asm⟩, GrownAt.of (by k_asm) (by k_mem), GrownAt.of (by k_asm) (by k_mem), GrownAt.of (by k_asm) (by k_mem)⟩))))))))

end Mine

end
end
end
theorem PySem.Challenge.cw_to0079_01_holds : PySem.Challenge.rw_to0079_01.Holds := by
  exact Mine.law_holds
