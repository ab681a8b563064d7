import PyProof.Rows.All
import Wide.All
import OpenK.AllK
import Wide.FinOn
import Lean
import PySem.Challenge.RW_zd0014_01
set_option Elab.async false
section
open PySem PySem.W PySem.Calls PyProof.Rows
set_option maxRecDepth 100000
set_option linter.unusedVariables false
set_option linter.unusedSimpArgs false
namespace Mine

/-! ## the program's parts -/
noncomputable def stAt (i : Nat) : Stmt := PySem.Challenge.pw_zd0014_01.main.body.getD i (.Pass ⟨0,0,0,0⟩)
noncomputable def fn (i : Nat) : DefRec := match stAt i with
  | .FunctionDef name args body _ _ _ scope _ _ pos => ⟨name, args, body, scope, pos⟩
  | _ => ⟨"", ⟨[], [], none, [], [], none, []⟩, [], { kind := .function, names := [], isGenerator := false, isCoroutine := false, more := [] }, ⟨0,0,0,0⟩⟩

/-! ## heaps -/
noncomputable abbrev Sub (R h : Heap) : Prop := ∀ b o, R.get? b = some o → h.get? b = some o
theorem Sub.refl (h : Heap) : Sub h h := fun _ _ e => e
theorem Sub.trans {a b c : Heap} (x : Sub a b) (y : Sub b c) : Sub a c := fun b o e => y b o (x b o e)
noncomputable def KB (X : List Addr) (h h' : Heap) : Prop := ∀ b o, b ∉ X → h.get? b = some o → h'.get? b = some o
theorem KB.refl (X : List Addr) (h : Heap) : KB X h h := fun _ _ _ e => e
theorem KB.trans {X : List Addr} {a b c : Heap} (x : KB X a b) (y : KB X b c) : KB X a c := fun b o n e => y b o n (x b o n e)
theorem KB.mono {X Y : List Addr} {a b : Heap} (x : KB X a b) (h : ∀ y ∈ X, y ∈ Y) : KB Y a b := fun b o n e => x b o (fun m => n (h b m)) e
theorem KB.of_sub {X : List Addr} {a b : Heap} (x : Sub a b) : KB X a b := fun b o _ e => x b o e
theorem KB.of_same {X : List Addr} {L : Addr} {a b : Heap} (x : Heap.SameBut L a b) (h : L ∈ X) : KB X a b :=
  fun b o n e => x.extBut b o (fun q => n (q ▸ h)) e
theorem KB.of_ext {X : List Addr} {L : Addr} {a b : Heap} (x : Heap.ExtBut L a b) (h : L ∈ X ∨ a.get? L = none) : KB X a b := fun b o n e => by
  refine x b o (fun q => ?_) e
  subst q
  rcases h with h | h
  · exact n h
  · rw [h] at e; cases e
theorem sub_of_ext_size {a b : Heap} (x : Heap.ExtBut a.objs.size a b) : Sub a b := fun c o e => x c o (Nat.ne_of_lt (Heap.lt_size e)) e
theorem sub_push (h : Heap) (o : Obj) : Sub h (h.push o) := fun _ _ e => Heap.get?_push_of_some o e
theorem get_ge_none {h : Heap} {a : Addr} (x : h.objs.size ≤ a) : h.get? a = none := by
  cases e : h.get? a with
  | none => rfl
  | some o => exact absurd (Heap.lt_size e) (Nat.not_lt.mpr x)
theorem get_size_none (h : Heap) : h.get? h.objs.size = none := get_ge_none (Nat.le_refl _)

/-- R' grows out of R by objects that h does not have -/
structure Grow (R R' h : Heap) : Prop where
  sub : Sub R R'
  fresh : ∀ b o, R'.get? b = some o → R.get? b = some o ∨ h.get? b = none
theorem Grow.refl (R h : Heap) : Grow R R h := ⟨Sub.refl R, fun _ _ e => .inl e⟩
theorem Grow.trans {R R' R'' h h' : Heap} (x : Grow R R' h) (y : Grow R' R'' h') (k : Sub h h') : Grow R R'' h :=
  ⟨x.sub.trans y.sub, fun b o e => by
    rcases y.fresh b o e with q | q
    · exact x.fresh b o q
    · right
      cases e' : h.get? b with
      | none => rfl
      | some o' => rw [k b o' e'] at q; cases q⟩
theorem Grow.lack {R R' h : Heap} (x : Grow R R' h) {a : Addr} {o : Obj} (hr : R.get? a = none) (hh : h.get? a = some o) : R'.get? a = none := by
  cases e : R'.get? a with
  | none => rfl
  | some o' =>
    rcases x.fresh a o' e with q | q
    · rw [hr] at q; cases q
    · rw [hh] at q; cases q

theorem Grow.back {R R' h h' : Heap} (x : Grow R R' h') (k : Sub h h') : Grow R R' h := ⟨x.sub, fun b o e => (x.fresh b o e).imp id fun q => by
  cases e' : h.get? b with
  | none => rfl
  | some o' => rw [k b o' e'] at q; cases q⟩
noncomputable def freedObj : Obj := { cls := .none, data := .freed }
/-- the objects of h at the addresses that p lets by -/
noncomputable def only (p : Addr → Bool) (h : Heap) : Heap := ⟨(h.objs.mapIdx fun i o => if p i then o else freedObj), h.life⟩
theorem only_get (p : Addr → Bool) (h : Heap) (a : Addr) : (only p h).get? a = if p a then h.get? a else none := by
  unfold only Heap.get?
  simp only [Array.getElem?_mapIdx]
  cases e : h.objs[a]? with
  | none => simp
  | some o =>
    cases hp : p a with
    | true => simp
    | false => simp [freedObj]

/-- an object that s₀ has not, taken into the reference -/
theorem Grow.add {R h h' : Heap} {a : Addr} {o : Obj} (hR : Sub R h') (ha : h'.get? a = some o) (hf : h.get? a = none) :
    ∃ R', Grow R R' h ∧ Sub R' h' ∧ R'.get? a = some o := by
  refine ⟨only (fun b => (R.get? b).isSome || b == a) h', ⟨fun b x e => ?_, fun b x e => ?_⟩, fun b x e => ?_, ?_⟩
  · rw [only_get, e]; simpa using hR b x e
  · rw [only_get] at e
    by_cases hb : b = a
    · subst hb; exact .inr hf
    · cases er : R.get? b with
      | none => rw [er] at e; simp [hb] at e
      | some y =>
        rw [er] at e
        simp only [Option.isSome_some, Bool.true_or, if_true] at e
        rw [hR b y er] at e; cases e; exact .inl rfl
  · rw [only_get] at e
    split at e
    · exact e
    · cases e
  · rw [only_get]; simp [ha]

/-! ## a run of a callee, seen from outside -/
structure Step (s s' : Shared) : Prop where
  sub : Sub s.heap s'.heap
  os : s'.os = s.os
  gens : ∀ (i : Nat) x, s.gens[i]? = some x → s'.gens[i]? = some x
  bare : AllBare s.gens → AllBare s'.gens
theorem Step.refl (s : Shared) : Step s s := ⟨Sub.refl _, rfl, fun _ _ e => e, id⟩
theorem Step.trans {a b c : Shared} (x : Step a b) (y : Step b c) : Step a c := ⟨x.sub.trans y.sub, y.os.trans x.os, fun i g e => y.gens i g (x.gens i g e), fun h => y.bare (x.bare h)⟩
theorem Step.heap {s₀ s : Shared} {h' : Heap} {tk : Nat} (x : Step s₀ s) (hk : Sub s₀.heap h') : Step s₀ { s with heap := h', toks := tk } := ⟨hk, x.os, x.gens, x.bare⟩

/-- what a call hands back: the value means P in a reference that grew out of R -/
noncomputable def Ret (s : Shared) (R : Heap) (P : Heap → Value → Prop) (v : Value) (s' : Shared) : Prop :=
  Step s s' ∧ ∃ R', Grow R R' s.heap ∧ Sub R' s'.heap ∧ P R' v

/-! ## the frame -/
structure Fm (s₀ : Shared) (R : Heap) (X : List Addr) (L : Addr) (m : Str → Option Value) (s : Shared) : Prop where
  step : Step s₀ s
  ns : s.heap.Ns L m
  has : Sub R s.heap
  out : ∀ x ∈ L :: X, R.get? x = none ∧ s₀.heap.get? x = none

section
variable {s₀ s : Shared} {R R' : Heap} {X : List Addr} {L : Addr} {m m' : Str → Option Value} {h' : Heap} {tk : Nat}
theorem Fm.to (F : Fm s₀ R X L m s) (hk : KB (L :: X) s.heap h') (hn : h'.Ns L m') : Fm s₀ R X L m' { s with heap := h', toks := tk } where
  step := F.step.heap fun b o e => hk b o (fun hb => by rw [(F.out b hb).2] at e; cases e) (F.step.sub b o e)
  ns := hn
  has := fun b o e => hk b o (fun hb => by rw [(F.out b hb).1] at e; cases e) (F.has b o e)
  out := F.out
theorem Fm.store (F : Fm s₀ R X L m s) (hs : Heap.SameBut L s.heap h') (hn : h'.Ns L m') : Fm s₀ R X L m' { s with heap := h', toks := tk } :=
  F.to (KB.of_same hs (List.mem_cons_self ..)) hn
/-- all that s has is kept -/
theorem Fm.keep (F : Fm s₀ R X L m s) (hk : Sub s.heap h') : Fm s₀ R X L m { s with heap := h', toks := tk } :=
  F.to (KB.of_sub hk) (F.ns.keeps hk)
/-- the private objects of X change, the frame does not -/
theorem Fm.other (F : Fm s₀ R X L m s) (hk : KB X s.heap h') (hL : L ∉ X) : Fm s₀ R X L m { s with heap := h', toks := tk } :=
  F.to (hk.mono fun y hy => List.mem_cons_of_mem _ hy) (F.ns.at' fun o e => hk L o hL e)
theorem Fm.push (F : Fm s₀ R X L m s) (o : Obj) : Fm s₀ R X L m { s with heap := s.heap.push o, toks := tk } := F.keep (sub_push _ _)
theorem Fm.tok (F : Fm s₀ R X L m s) : Fm s₀ R X L m { s with toks := tk } := ⟨⟨F.step.sub, F.step.os, F.step.gens, F.step.bare⟩, F.ns, F.has, F.out⟩
theorem Fm.priv {D : Addr} (F : Fm s₀ R X L m s) (hR : R.get? D = none) (h0 : s₀.heap.get? D = none) : Fm s₀ R (D :: X) L m s :=
  ⟨F.step, F.ns, F.has, fun x hx => by
    rcases List.mem_cons.mp hx with rfl | hx
    · exact F.out _ (List.mem_cons_self ..)
    · rcases List.mem_cons.mp hx with rfl | hx
      · exact ⟨hR, h0⟩
      · exact F.out _ (List.mem_cons_of_mem _ hx)⟩
theorem Fm.none_of (F : Fm s₀ R X L m s) {D : Addr} (h : s.heap.get? D = none) : R.get? D = none ∧ s₀.heap.get? D = none := by
  constructor
  · cases e : R.get? D with
    | none => rfl
    | some o => rw [F.has D o e] at h; cases h
  · cases e : s₀.heap.get? D with
    | none => rfl
    | some o => rw [F.step.sub D o e] at h; cases h
/-- a fresh object, private from here on -/
theorem Fm.new (F : Fm s₀ R X L m s) (o : Obj) : Fm s₀ R (s.heap.objs.size :: X) L m { s with heap := s.heap.push o, toks := tk } :=
  (F.push o).priv (F.none_of (get_size_none _)).1 (F.none_of (get_size_none _)).2
/-- fewer private ones -/
theorem Fm.drop {Y : List Addr} (F : Fm s₀ R X L m s) (h : ∀ y ∈ Y, y ∈ X) : Fm s₀ R Y L m s :=
  ⟨F.step, F.ns, F.has, fun x hx => by
    rcases List.mem_cons.mp hx with rfl | hx
    · exact F.out _ (List.mem_cons_self ..)
    · exact F.out _ (List.mem_cons_of_mem _ (h x hx))⟩
/-- behind a call -/
theorem Fm.call {s' : Shared} (F : Fm s₀ R X L m s) (st : Step s s') (g : Grow R R' s.heap) (hs : Sub R' s'.heap)
    (hX : ∀ x ∈ X, (s.heap.get? x).isSome = true) : Fm s₀ R' X L m s' :=
  ⟨F.step.trans st, F.ns.keeps st.sub, hs, fun x hx => by
    refine ⟨?_, (F.out x hx).2⟩
    rcases List.mem_cons.mp hx with rfl | hx'
    · obtain ⟨o, _, _, ho, _⟩ := F.ns; exact g.lack (F.out _ hx).1 ho
    · obtain ⟨o, ho⟩ := Option.isSome_iff_exists.mp (hX x hx'); exact g.lack (F.out _ hx).1 ho⟩
theorem Fm.lt (F : Fm s₀ R X L m s) : L < s.heap.objs.size := F.ns.lt
theorem Fm.ret (F : Fm s₀ R X L m s) {P : Heap → Value → Prop} {v : Value} (R₀ : Heap) (g : Grow R₀ R s₀.heap) (hp : P R v) : Ret s₀ R₀ P v s :=
  ⟨F.step, R, g, F.has, hp⟩
end

/-! ## the room -/
structure AOk (A : Around) (k : Nat) : Prop where
  hh : A.handled = none
  hd : A.depth + k ≤ 900
  hu : A.units + 10 * k ≤ 9000
theorem AOk.deeper {A : Around} {k : Nat} {env : Env} (x : AOk A (k + 1)) : AOk (A.deeper env) k :=
  ⟨x.hh, by have := x.hd; simp only [Around.deeper]; omega, by have := x.hu; simp only [Around.deeper]; omega⟩
theorem AOk.in1 {A : Around} {k : Nat} (x : AOk A (k + 1)) : AOk A.in1 k :=
  ⟨x.hh, by have := x.hd; simp only [Around.in1]; omega, by have := x.hu; simp only [Around.in1]; omega⟩
theorem AOk.le {A : Around} {k n : Nat} (x : AOk A n) (h : k ≤ n) : AOk A k := ⟨x.hh, by have := x.hd; omega, by have := x.hu; omega⟩
theorem AOk.room {A : Around} {k : Nat} (x : AOk A k) : A.depth < recursionLimit := by have := x.hd; simp only [recursionLimit]; omega
theorem AOk.units {A : Around} {k : Nat} (x : AOk A k) : A.units < cLine := by have := x.hu; simp only [cLine]; omega

/-! ## the globals -/
noncomputable def FnAt (mg : Str → Option Value) (R : Heap) (d : DefRec) : Prop :=
  ∃ a o pm cd doc, mg d.name = some (.ref a) ∧ R.get? a = some o ∧ o.data = .func (docDef d.name d.params d.body d.scope pm cd doc) ∧ R.CodeRec cd d.name
theorem FnAt.keeps {mg : Str → Option Value} {R R' : Heap} {d : DefRec} (x : FnAt mg R d) (k : Sub R R') : FnAt mg R' d :=
  let ⟨a, o, pm, cd, doc, h1, h2, h3, h4⟩ := x; ⟨a, o, pm, cd, doc, h1, k _ _ h2, h3, h4.keeps k⟩

/-- entering a def -/
theorem enter {prog : Program} {w : World} {A : Around} {k : Nat} {s : Shared} {R : Heap} {d : DefRec} {a : Addr} {o : Obj} {pm cd doc : Value} {args : List Value} {binds : List (Str × Value)} {P : Heap → Value → Prop}
    (hA : AOk A (k + 1)) (hR : Sub R s.heap) (hlim : R.NoLimit) (ho : R.get? a = some o) (hdata : o.data = .func (docDef d.name d.params d.body d.scope pm cd doc)) (hcd : R.CodeRec cd d.name)
    (hbind : bindArgs (docDef d.name d.params d.body d.scope pm cd doc) ⟨args, []⟩ = pure binds)
    (hloc : (binds.all fun x => decide (d.scope.names.lookup x.1 = some .local)) = true)
    (h : ∀ L s₁, Fm s R [] L (fun x => binds.reverse.lookup x) s₁ → s₁.gens = s.gens → AOk (A.deeper (envOf d.name d.scope L a cd)) k →
      wpAny (model prog w) (A.deeper (envOf d.name d.scope L a cd)) (execs d.body (envOf d.name d.scope L a cd))
        (fun f s' => Ret s R P (match f with | .ret v => v | _ => .none) s') (fun _ _ => False) s₁)
    (hco : d.scope.isCoroutine = false) (hgen : d.scope.isGenerator = false) (hk : d.scope.kind = .function)
    (hcell : ∀ x ∈ d.scope.names, x.2 ≠ .cell) :
    wpAny (model prog w) A (call (.ref a) args) (Ret s R P) (fun _ _ => False) s := by
  refine wpAny_call (call_plain_ret hA.room (hR _ _ ho) hdata (hlim.keeps hR) (hcd.keeps hR) hbind (locs hloc) (fun h₁ F => ?_) hco hgen hk hcell)
  refine wpAny_mono (h _ _ ⟨⟨F.keep, rfl, fun _ _ e => e, id⟩, F.ns, fun b o e => F.keep b o (hR b o e), fun x hx => ?_⟩ rfl hA.deeper) (fun f s' q => q) fun _ _ q => q
  obtain rfl : x = s.heap.objs.size := by simpa using hx
  refine ⟨?_, get_size_none _⟩
  cases e : R.get? s.heap.objs.size with
  | none => rfl
  | some o => exact absurd (Heap.lt_size (hR _ _ e)) (Nat.lt_irrefl _)

end Mine
end
section
open PySem PySem.W PySem.Calls PyProof.Rows
set_option maxRecDepth 100000
set_option linter.unusedVariables false
set_option linter.unusedSimpArgs false
namespace Mine

noncomputable abbrev NoE : Value → Shared → Prop := fun _ _ => False

/-- only the objects of X have changed, and no generator -/
structure Mv (X : List Addr) (s s' : Shared) : Prop where
  kb : KB X s.heap s'.heap
  gens : s'.gens = s.gens
theorem Mv.trans {X : List Addr} {a b c : Shared} (x : Mv X a b) (y : Mv X b c) : Mv X a c := ⟨x.kb.trans y.kb, y.gens.trans x.gens⟩
theorem Mv.mono {X Y : List Addr} {a b : Shared} (x : Mv X a b) (h : ∀ y ∈ X, y ∈ Y) : Mv Y a b := ⟨x.kb.mono h, x.gens⟩
theorem Mv.at {X : List Addr} {a b : Shared} (x : Mv X a b) {c : Addr} (h : c ∉ X) : ∀ o, a.heap.get? c = some o → b.heap.get? c = some o := fun o e => x.kb c o h e

theorem wp_if_t {b : Bool} {x y : Prop} (hb : b = true) (h : x) : if b = true then x else y := by
  subst hb; exact h
theorem wp_if_f {b : Bool} {x y : Prop} (hb : b = false) (h : y) : if b = true then x else y := by
  subst hb; exact h
/-! ## names -/
section
variable {prog : Program} {w : World} {A : Around} {E : Value → Shared → Prop} {s₀ s : Shared} {R : Heap} {X : List Addr} {L : Addr} {m : Str → Option Value} {env : Env}
theorem nmL {x : Str} {pos : Pos} {v : Value} {Q : Value → Shared → Prop} (F : Fm s₀ R X L m s) (hv : m x = some v) (h : Q v s)
    (hl : env.kindOf x = some .local := by rfl) (hk : env.scope.kind = .function := by rfl) (hL : env.locals = L := by rfl) (hd : (x == ("__debug__" : Str)) = false := by decide) :
    wpAny (model prog w) A (eval (.Name x pos) env) Q E s :=
  wpAny_Name (wpAny_loadName_local hk hl (hL ▸ F.ns) hv h) hd
theorem ldL {x : Str} {v : Value} {Q : Value → Shared → Prop} (F : Fm s₀ R X L m s) (hv : m x = some v) (h : Q v s)
    (hl : env.kindOf x = some .local := by rfl) (hk : env.scope.kind = .function := by rfl) (hL : env.locals = L := by rfl) :
    wpAny (model prog w) A (loadName env x) Q E s := wpAny_loadName_local hk hl (hL ▸ F.ns) hv h
theorem stL {x : Str} {v : Value} {Q : Unit → Shared → Prop} (F : Fm s₀ R X L m s)
    (h : ∀ s', Fm s₀ R X L (fun y => if y = x then some v else m y) s' → Mv [L] s s' → Q () s')
    (hl : env.kindOf x = some .local := by rfl) (hk : env.scope.kind = .function := by rfl) (hL : env.locals = L := by rfl) :
    wpAny (model prog w) A (storeName env x v) Q E s := by
  subst hL
  exact wpAny_storeName_local hl F.ns (fun h' hn hs => h _ (F.store hs hn) ⟨KB.of_same hs (List.mem_cons_self ..), rfl⟩) (by rw [hk]; rfl)
theorem nmG {mg : Str → Option Value} {x : Str} {pos : Pos} {v : Value} {Q : Value → Shared → Prop} (F : Fm s₀ R X L m s) (hg : R.Ns mainGlobals mg) (hv : mg x = some v) (h : Q v s)
    (hl : env.kindOf x = some .globalImplicit := by rfl) (hk : env.scope.kind = .function := by rfl) (hG : env.globals = mainGlobals := by rfl) (hd : (x == ("__debug__" : Str)) = false := by decide) :
    wpAny (model prog w) A (eval (.Name x pos) env) Q E s :=
  Name_function_global hk hl (loadGlobal_global (hG ▸ hg.keeps F.has) hv h) hd
theorem nmB {mg mb : Str → Option Value} {x : Str} {pos : Pos} {v : Value} {Q : Value → Shared → Prop} (F : Fm s₀ R X L m s) (hg : R.Ns mainGlobals mg) (hb : R.Ns builtinsNs mb) (hm : mg x = none) (hv : mb x = some v) (h : Q v s)
    (hl : env.kindOf x = some .globalImplicit := by rfl) (hk : env.scope.kind = .function := by rfl) (hG : env.globals = mainGlobals := by rfl) (hB : env.builtins = builtinsNs := by rfl) (hd : (x == ("__debug__" : Str)) = false := by decide) :
    wpAny (model prog w) A (eval (.Name x pos) env) Q E s :=
  Name_function_global hk hl (loadGlobal_builtin (hG ▸ hg.keeps F.has) hm (hB ▸ hb.keeps F.has) hv h) hd
end

/-! ## a for loop, no exception in sight -/
theorem wpFor {prog : Program} {w : World} {A : Around} {s : Shared} {env : Env} {target iter : Expr} {body : List Stmt} {pos : Pos} {Q : Flow → Shared → Prop}
    (h : wpAny (model prog w) A (eval iter env) (fun x s₁ => wpAny (model prog w) A (pyIter x) (fun it s₂ => ∃ (I : Nat → Shared → Prop) (n : Nat), I n s₂ ∧ ∀ n s, I n s →
      wpAny (model prog w) A (pyNext it) (fun r s₁ => match r with
        | none => Q .next s₁
        | some v => wpAny (model prog w) A (letOwnedTupleGo target it v) (fun _ s₁' => wpAny (model prog w) A (assign target env v) (fun _ s₂ => wpAny (model prog w) A (execs body env) (fun f s₃ => match f with
            | .next | .cont => ∃ m, m < n ∧ I m s₃
            | .brk => Q .next s₃
            | .ret v => Q (.ret v) s₃) NoE s₂) NoE s₁') NoE s₁) NoE s) NoE s₁) NoE s)
    (hs : ∀ x, foldedSetIterable iter env x = pure x := by intro _; rfl) :
    wpAny (model prog w) A (exec (.For target iter body [] pos) env) Q NoE s := by
  refine wpAny_For (wpAny_mono h (fun x s₁ h₁ => wpAny_mono h₁ (fun it s₂ h₂ => ?_) fun _ _ f => f.elim) fun _ _ f => f.elim) hs
  refine Classical.byContradiction fun hNo => ?_
  obtain ⟨I, n, h0, turn⟩ := h₂
  refine hNo ?_
  clear hNo
  refine codeAny_forLoop_any I (fun n s hI => ?_) n h0
  refine wpAny_mono (turn n s hI) (fun r s₁ h₁ => ?_) fun _ _ f => f.elim
  cases r with
  | none => exact wpAny_execs_nil h₁
  | some v => exact wpAny_mono h₁ (fun _ s₁' h₁' => wpAny_mono h₁' (fun _ s₂ h₂ => wpAny_mono h₂ (fun f s₃ h₃ => by cases f <;> exact h₃) fun _ _ f => f.elim) fun _ _ f => f.elim) fun _ _ f => f.elim

/-! ## rows: a dict from texts to ints -/
noncomputable def All2 {α β : Type} (P : α → β → Prop) : List α → List β → Prop
  | [], [] => True
  | a :: as, b :: bs => P a b ∧ All2 P as bs
  | _, _ => False
theorem All2.length {α β : Type} {P : α → β → Prop} : ∀ {as : List α} {bs : List β}, All2 P as bs → as.length = bs.length
  | [], [], _ => rfl
  | _ :: _, _ :: _, h => by rw [List.length_cons, List.length_cons, All2.length h.2]
  | [], _ :: _, h => h.elim
  | _ :: _, [], h => h.elim
theorem All2.mono {α β : Type} {P P' : α → β → Prop} (k : ∀ a b, P a b → P' a b) : ∀ {as : List α} {bs : List β}, All2 P as bs → All2 P' as bs
  | [], [], _ => trivial
  | _ :: _, _ :: _, h => ⟨k _ _ h.1, All2.mono k h.2⟩
  | [], _ :: _, h => h.elim
  | _ :: _, [], h => h.elim
theorem All2.append {α β : Type} {P : α → β → Prop} : ∀ {as : List α} {bs : List β} {cs : List α} {ds : List β}, All2 P as bs → All2 P cs ds → All2 P (as ++ cs) (bs ++ ds)
  | [], [], _, _, _, k => k
  | _ :: _, _ :: _, _, _, h, k => ⟨h.1, All2.append h.2 k⟩
  | [], _ :: _, _, _, h, _ => h.elim
  | _ :: _, [], _, _, h, _ => h.elim
theorem All2.get {α β : Type} {P : α → β → Prop} : ∀ {as : List α} {bs : List β}, All2 P as bs → ∀ {i : Nat} {a : α}, as[i]? = some a → ∃ b, bs[i]? = some b ∧ P a b
  | [], [], _, i, a, h => by simp at h
  | x :: _, y :: _, h, 0, a, e => ⟨y, rfl, by simp at e; exact e ▸ h.1⟩
  | _ :: _, _ :: _, h, i + 1, a, e => by
    refine Classical.byContradiction fun hNo => ?_
    obtain ⟨b, hb, hp⟩ := All2.get h.2 (i := i) (a := a) (by simpa using e)
    refine hNo ?_
    clear hNo
    exact ⟨b, by simpa using hb, hp⟩
  | [], _ :: _, h, _, _, _ => h.elim
  | _ :: _, [], h, _, _, _ => h.elim
theorem All2.get' {α β : Type} {P : α → β → Prop} : ∀ {as : List α} {bs : List β}, All2 P as bs → ∀ {i : Nat} {b : β}, bs[i]? = some b → ∃ a, as[i]? = some a ∧ P a b
  | [], [], _, i, a, h => by simp at h
  | x :: _, y :: _, h, 0, a, e => ⟨x, rfl, by simp at e; exact e ▸ h.1⟩
  | _ :: _, _ :: _, h, i + 1, a, e => by
    refine Classical.byContradiction fun hNo => ?_
    obtain ⟨b, hb, hp⟩ := All2.get' h.2 (i := i) (b := a) (by simpa using e)
    refine hNo ?_
    clear hNo
    exact ⟨b, by simpa using hb, hp⟩
  | [], _ :: _, h, _, _, _ => h.elim
  | _ :: _, [], h, _, _, _ => h.elim

noncomputable def rowOk (kv : Str × Value) (p : Str × Int) : Prop := kv.1 = p.1 ∧ ∃ t, kv.2 = .int p.2 t
noncomputable abbrev Kv := List (Str × Int)
noncomputable def IsRows (prog : Program) (w : World) (h : Heap) (a : Addr) (l : Kv) : Prop := (a == sysModules) = false ∧ ∃ kvs ep, h.DictAt (strKind prog w) a kvs ep ∧ All2 rowOk kvs l
theorem IsRows.keeps {prog : Program} {w : World} {h h' : Heap} {a : Addr} {l : Kv} (x : IsRows prog w h a l) (k : Sub h h') : IsRows prog w h' a l :=
  let ⟨lo, kvs, ep, d, r⟩ := x; ⟨lo, kvs, ep, d.at fun o e => k _ o e, r⟩

/-! ## count_calls -/
noncomputable def sumRows (l : Kv) : Int := (l.map (·.2)).foldl (· + ·) 0

theorem eval_values {prog : Program} {w : World} {A : Around} {E : Value → Shared → Prop} {s : Shared} {env : Env} {K : Type} [DecidableEq K] {knd : KeyKind prog w K} {o : Expr} {apos pos : Pos} {d : Addr} {kvs : List (K × Value)} {Q : Value → Shared → Prop}
    (hdS : (d == sysModules) = false) (hm : s.heap.DictOf knd d kvs) (hbase : attributeBase o "values" env (eval o env) = eval o env) (hline : (apos.endLine == pos.line) = true)
    (ho : ∀ Q' : Value → Shared → Prop, Q' (.ref d) s → wpAny (model prog w) A (eval o env) Q' E s)
    (hQ : Q (.ref s.heap.objs.size) { s with heap := s.heap.push { cls := .type "dict_values", data := .fields #[.ref d] } }) :
    wpAny (model prog w) A (eval (.Call (.Attribute o "values" apos) [] [] pos) env) Q E s := by
  refine wpAny_Call_method (T := "dict") (id := "dict.values") hbase rfl hline PySem.F.plainAttrs_dict PySem.F.slot_dict_values PySem.F.type_dict_values (ho _ ⟨hm.typeIs, hm.mapOf.noDict, ?_⟩)
  show wpAny _ _ (callWith pos (.builtin "dict.values") [.ref d] [] []) Q E s
  exact method_meetsIn PySem.F.slot_dict_values PySem.F.entry_dict_values rfl (PyProof.Rows.evalArgs_none ⟨rfl, hm.typeIs, PySem.F.args_dict_values_1 _, _, meets_dict_values knd d hdS, ⟨kvs, hm⟩, hQ⟩)

theorem sumRows_snoc (l : Kv) (p : Str × Int) : sumRows (l ++ [p]) = sumRows l + p.2 := by
  unfold sumRows; rw [List.map_append, List.foldl_append]; rfl

theorem count_calls_body {prog : Program} {w : World} {A : Around} {s₀ s : Shared} {R : Heap} {L a d : Addr} {cd : Value} {l : Kv} (hA : AOk A 2)
    (F : Fm s₀ R [] L (fun x => [(("callers" : Str), Value.ref d)].reverse.lookup x) s) (hl : IsRows prog w R d l) :
    wpAny (model prog w) A (execs (fn 3).body (envOf (fn 3).name (fn 3).scope L a cd))
      (fun f s' => Ret s₀ R (fun _ v => ∃ t, v = .int (sumRows l) t) (match f with | .ret v => v | _ => .none) s') NoE s := by
  refine Classical.byContradiction fun hNo => ?_
  obtain ⟨hlo, kvs, ep, hd, hk⟩ := hl
  refine hNo ?_
  clear hNo
  refine wpAny_execs_cons (wpAny_Assign_Name (wpAny_Constant_int (stL F.tok fun s₁ F₁ _ => ?_)))
  have hd₁ : s₁.heap.DictAt (strKind prog w) d kvs ep := hd.at fun o e => F₁.has _ o e
  refine wpAny_execs_cons (wpFor (eval_values hlo hd₁.dictOf rfl rfl (fun Q' q => nmL F₁ rfl q) ?_))
  have F₂ := F₁.push (tk := s₁.toks) { cls := .type "dict_values", data := .fields #[.ref d] }
  refine wpAny_pyIter_values (knd := strKind prog w) (kvs := kvs) (ep := ep) ⟨_, Heap.get?_push_size _ rfl, rfl, rfl⟩ (hd.at fun o e => F₂.has _ o e) ?_
  have F₃ := F₂.new (tk := s₁.toks) { cls := .type "dict_valueiterator", data := .fields #[.ref d, .int 0 0, .int kvs.length 0, .int ep 0] }
  generalize hit : (s₁.heap.push { cls := .type "dict_values", data := .fields #[.ref d] }).objs.size = it at F₃ ⊢
  have hdi : R.get? it = none := (F₃.out it (by simp)).1
  have hLi : L ≠ it := by rintro rfl; exact absurd F₂.lt (by show ¬ L < (s₁.heap.push _).objs.size; rw [hit]; exact Nat.lt_irrefl _)
  refine ⟨fun n s => ∃ i m' t, n + i = kvs.length ∧ Fm s₀ R [it] L m' s ∧ m' "nc" = some (.int (sumRows (l.take i)) t) ∧ s.heap.IsValIter it d i kvs.length ep, kvs.length,
    ⟨0, _, _, rfl, F₃, rfl, ⟨_, by rw [← hit]; exact Heap.get?_push_size _ rfl, rfl, rfl⟩⟩, ?_⟩
  intro n s hJo
  refine Classical.byContradiction fun hNo => ?_
  obtain ⟨i, m', t, hn, F₄, hnc, hI⟩ := hJo
  refine hNo ?_
  clear hNo
  have hd₄ : s.heap.DictAt (strKind prog w) d kvs ep := hd.at fun o e => F₄.has _ o e
  have hdn : d ≠ it := by rintro rfl; obtain ⟨o, _, ho, _⟩ := hd; rw [ho] at hdi; cases hdi
  cases hx : kvs[i]? with
  | none =>
    refine wpAny_pyNext_values_end hA.hh hI hd₄ hx fun h' hh => ?_
    have F₅ := F₄.other (h' := h') (tk := s.toks) (KB.of_ext hh (.inl (by simp))) (by simpa using hLi)
    refine wpAny_execs_cons (wpAny_Return_some (nmL F₅ hnc (F₅.drop (Y := []) (by simp) |>.ret R (Grow.refl _ _) ⟨t, ?_⟩)))
    have hi : i = kvs.length := by have := List.getElem?_eq_none_iff.mp hx; omega
    rw [hi, hk.length, List.take_length]
  | some kv =>
    refine Classical.byContradiction fun hNo => ?_
    obtain ⟨k, v⟩ := kv
    obtain ⟨p, hp, hr⟩ := hk.get hx
    obtain ⟨hk1, t', hv⟩ := hr
    refine hNo ?_
    clear hNo
    dsimp only at hk1 hv; subst hv
    refine wpAny_pyNext_values_item hI hd₄ hx fun h' hI' hs => ?_
    have F₅ := F₄.other (h' := h') (tk := s.toks) (KB.of_same hs (by simp)) (by simpa using hLi)
    refine wpAny_pure (wpAny_assign_Name (stL F₅ fun s₅ F₆ M₆ => ?_))
    refine wpAny_execs_cons (wpAny_AugAssign_Name (ldL F₆ hnc (nmL F₆ rfl (wpAny_iadd_int (stL F₆.tok fun s₆ F₇ M₇ => ?_)))))
    have hlt : i < kvs.length := (List.getElem?_eq_some_iff.mp hx).1
    refine wpAny_execs_nil ⟨n - 1, by omega, i + 1, _, s₅.toks, by omega, F₇, ?_, ?_⟩
    · show some (Value.int (sumRows (l.take i) + p.2) _) = _
      rw [List.take_succ, hp]; simp only [Option.toList]; rw [sumRows_snoc]
    · obtain ⟨o, ho, r⟩ := hI'
      exact ⟨o, M₇.at (by simpa using Ne.symm hLi) _ (M₆.at (by simpa using Ne.symm hLi) _ ho), r⟩
end Mine
end
section
open PySem PySem.W PySem.Calls PyProof.Rows
set_option maxRecDepth 100000
set_option linter.unusedVariables false
set_option linter.unusedSimpArgs false
namespace Mine

/-! ## drawing -/
noncomputable def bindAll (m : Str → Option Value) : List Str → List Value → Str → Option Value
  | x :: xs, v :: vs => bindAll (fun y => if y = x then some v else m y) xs vs
  | _, _ => m

section
variable {prog : Program} {w : World} {A : Around} {s₀ s : Shared} {R : Heap} {X : List Addr} {L : Addr} {m : Str → Option Value} {env : Env}

theorem Fm.kb {wr : List Addr} {h' : Heap} {tk : Nat} (F : Fm s₀ R X L m s) (hk : KB wr s.heap h') (hw : ∀ b ∈ wr, b ∈ X) (hL : L ∉ X) : Fm s₀ R X L m { s with heap := h', toks := tk } :=
  F.other (hk.mono hw) hL

theorem assignIn : ∀ (xs : List (Str × Pos)) (vs : List Value) (m : Str → Option Value) (s : Shared) (Q : Unit → Shared → Prop), Fm s₀ R X L m s → xs.length = vs.length → (∀ x ∈ xs, env.kindOf x.1 = some .local) →
    env.scope.kind = .function → env.locals = L → (∀ s', Fm s₀ R X L (bindAll m (xs.map (·.1)) vs) s' → Mv [L] s s' → Q () s') →
    wpAny (model prog w) A (assignInOrder (xs.map fun x => assign (.Name x.1 x.2) env) vs) Q NoE s
  | [], [], m, s, Q, F, _, _, _, _, h => wpAny_pure (h s F ⟨KB.refl _ _, rfl⟩)
  | (x, p) :: xs, v :: vs, m, s, Q, F, hn, hl, hk, hL, h => by
    show wpAny _ _ (do holding vs (assign (.Name x p) env v); assignInOrder (xs.map fun x => assign (.Name x.1 x.2) env) vs) _ _ _
    refine wpAny_bind (wpAny_holding (wpAny_assign_Name (stL F (fun s' F' M' => ?_) (hl (x, p) (by simp)) hk hL)))
    exact assignIn xs vs _ s' Q F' (by simpa using hn) (fun y hy => hl y (by simp [hy])) hk hL fun s'' F'' M'' => h s'' F'' (M'.trans M'')
  | [], _ :: _, _, _, _, _, hn, _, _, _, _ => by simp at hn
  | _ :: _, [], _, _, _, _, hn, _, _, _, _ => by simp at hn

theorem assignEach_names (env : Env) : ∀ xs : List (Str × Pos), (assignEach (xs.map fun x => Expr.Name x.1 x.2) env).map (·.2) = xs.map (fun x => assign (.Name x.1 x.2) env)
  | [] => rfl
  | (x, p) :: xs => by rw [List.map_cons, List.map_cons, ← assignEach_names env xs]; rfl
theorem assignEach_nostar (env : Env) : ∀ xs : List (Str × Pos), (assignEach (xs.map fun x => Expr.Name x.1 x.2) env).findIdx? (·.1) = none
  | [] => rfl
  | (x, p) :: xs => by
    show ((false, assign (.Name x p) env) :: assignEach (xs.map fun x => Expr.Name x.1 x.2) env).findIdx? (·.1) = none
    rw [List.findIdx?_cons, assignEach_nostar env xs]; rfl
theorem assignEach_len (env : Env) : ∀ xs : List (Str × Pos), (assignEach (xs.map fun x => Expr.Name x.1 x.2) env).length = xs.length
  | [] => rfl
  | (x, p) :: xs => by
    show ((false, assign (.Name x p) env) :: assignEach (xs.map fun x => Expr.Name x.1 x.2) env).length = _
    rw [List.length_cons, assignEach_len env xs, List.length_cons]

/-- a tuple taken apart into names -/
theorem assignTup {xs : List (Str × Pos)} {k : Nat} {pos : Pos} {T : Addr} {vals : Array Value} {Q : Unit → Shared → Prop} (hh : A.handled = none) (F : Fm s₀ R X L m s) (hT : s.heap.IsTuple T vals)
    (hn : xs.length = vals.size) (hl : ∀ x ∈ xs, env.kindOf x.1 = some .local) (hk : env.scope.kind = .function) (hL : env.locals = L)
    (h : ∀ s', Fm s₀ R X L (bindAll m (xs.map (·.1)) vals.toList) s' → Mv [L] s s' → Q () s') :
    wpAny (model prog w) A (assign (.Tuple (xs.map fun x => Expr.Name x.1 x.2) k pos) env (.ref T)) Q NoE s := by
  refine wpAny_assign_Tuple hh hT (by rw [assignEach_len, hn]) (assignEach_nostar env xs) fun h' hx => ?_
  rw [assignEach_names]
  have hs := sub_of_ext_size hx
  exact assignIn xs vals.toList m _ Q (F.keep (tk := s.toks) hs) (by simpa using hn) hl hk hL fun s' F' M' => h s' F' ⟨(KB.of_sub hs).trans M'.kb, M'.gens⟩

theorem drawU {I : Addr} {fp wr : List Addr} {n i : Nat} {Pt : Nat → Array Value → Prop} {St : Nat → Heap → Prop} {Mid : Nat → Addr → Heap → Prop} {N S : Shared → Prop} {xs : List (Str × Pos)} {k : Nat} {pos : Pos}
    (W : WalksU prog w A I fp wr n Pt St Mid) (hh : A.handled = none) (F : Fm s₀ R X L m s) (hst : St i s.heap) (hi : i ≤ n) (hwr : ∀ b ∈ wr, b ∈ X) (hLX : L ∉ X) (hLf : L ∉ fp)
    (hlen : ∀ i vals, Pt i vals → xs.length = vals.size) (hl : ∀ x ∈ xs, env.kindOf x.1 = some .local) (hk : env.scope.kind = .function) (hL : env.locals = L)
    (hN : i = n → ∀ s', Fm s₀ R X L m s' → Mv wr s s' → N s')
    (hS : i < n → ∀ vals s', Pt i vals → Fm s₀ R X L (bindAll m (xs.map (·.1)) vals.toList) s' → Mv (L :: wr) s s' → St (i + 1) s'.heap → S s') :
    wpAny (model prog w) A (pyNext (.ref I)) (fun r s₁ => match r with
      | none => N s₁
      | some v => wpAny (model prog w) A (letOwnedTupleGo (.Tuple (xs.map fun x => Expr.Name x.1 x.2) k pos) (.ref I) v) (fun _ s₁' => wpAny (model prog w) A (assign (.Tuple (xs.map fun x => Expr.Name x.1 x.2) k pos) env v) (fun _ s₂ => S s₂) NoE s₁') NoE s₁) NoE s := by
  rcases Nat.lt_or_ge i n with hlt | hge
  · refine W.item i _ _ _ hlt hst fun T vals h₁ tk hP hT hM hk₁ => ?_
    have F₁ := F.kb (tk := tk) (h' := h₁) hk₁ hwr hLX
    refine W.go _ _ _ i T _ _ _ hM fun h₂ hst₂ hk₂ => ?_
    have F₂ := F₁.kb (tk := tk) (h' := h₂) hk₂ hwr hLX
    have hT₂ : h₂.IsTuple T vals := let ⟨o, ho, r⟩ := hT; ⟨o, hk₂ T o (W.apart i T _ hM) ho, r⟩
    refine assignTup hh F₂ hT₂ (hlen i vals hP) hl hk hL fun s' F' M' => hS hlt vals s' hP F' ⟨?_, M'.gens⟩ (W.frame _ _ _ hst₂ fun b hb o e => M'.kb b o (by simpa using fun (q : b = L) => hLf (q ▸ hb)) e)
    have k1 : KB wr s.heap h₂ := KB.trans hk₁ hk₂
    exact (k1.mono fun y hy => List.mem_cons_of_mem _ hy).trans (M'.kb.mono (by simp))
  · obtain rfl : i = n := Nat.le_antisymm hi hge
    exact W.done _ _ _ hst fun h₁ tk hk₁ => hN rfl _ (F.kb hk₁ hwr hLX) ⟨hk₁, rfl⟩

theorem drawW {I : Addr} {fp wr : List Addr} {n i : Nat} {P : Nat → Value → Prop} {St : Nat → Heap → Prop} {N S : Shared → Prop} {x : Str} {px : Pos}
    (W : Walks prog w A I fp wr n P St) (F : Fm s₀ R X L m s) (hst : St i s.heap) (hi : i ≤ n) (hwr : ∀ b ∈ wr, b ∈ X) (hLX : L ∉ X) (hLf : L ∉ fp)
    (hl : env.kindOf x = some .local) (hk : env.scope.kind = .function) (hL : env.locals = L)
    (hN : i = n → ∀ s', Fm s₀ R X L m s' → Mv wr s s' → N s')
    (hS : i < n → ∀ v s', P i v → Fm s₀ R X L (fun y => if y = x then some v else m y) s' → Mv (L :: wr) s s' → St (i + 1) s'.heap → S s') :
    wpAny (model prog w) A (pyNext (.ref I)) (fun r s₁ => match r with
      | none => N s₁
      | some v => wpAny (model prog w) A (letOwnedTupleGo (.Name x px) (.ref I) v) (fun _ s₁' => wpAny (model prog w) A (assign (.Name x px) env v) (fun _ s₂ => S s₂) NoE s₁') NoE s₁) NoE s := by
  rcases Nat.lt_or_ge i n with hlt | hge
  · refine W.item i _ _ _ hlt hst fun v h₁ tk hP hst₁ hk₁ => ?_
    have F₁ := F.kb (tk := tk) (h' := h₁) hk₁ hwr hLX
    refine wpAny_pure (wpAny_assign_Name (stL F₁ (fun s' F' M' => hS hlt v s' hP F' ⟨?_, M'.gens⟩ (W.frame _ _ _ hst₁ fun b hb o e => M'.kb b o (by simpa using fun (q : b = L) => hLf (q ▸ hb)) e)) hl hk hL))
    have k1 : KB wr s.heap h₁ := hk₁
    exact (k1.mono fun y hy => List.mem_cons_of_mem _ hy).trans (M'.kb.mono (by simp))
  · obtain rfl : i = n := Nat.le_antisymm hi hge
    exact W.done _ _ _ hst fun h₁ tk hk₁ => hN rfl _ (F.kb hk₁ hwr hLX) ⟨hk₁, rfl⟩
theorem Fm.ne (F : Fm s₀ R X L m s) {d x : Addr} {o : Obj} (h : R.get? d = some o) (hx : x ∈ L :: X) : d ≠ x := by
  rintro rfl; rw [(F.out d hx).1] at h; cases h

/-- a loop that takes tuples apart, by an invariant -/
theorem loopU {I : Addr} {fp wr : List Addr} {n : Nat} {Pt : Nat → Array Value → Prop} {St : Nat → Heap → Prop} {Mid : Nat → Addr → Heap → Prop} {xs : List (Str × Pos)} {k : Nat} {pos : Pos} {body : List Stmt} {Q : Flow → Shared → Prop}
    (W : WalksU prog w A I fp wr n Pt St Mid) (hh : A.handled = none) (F : Fm s₀ R X L m s) (hst : St 0 s.heap) (hwr : ∀ b ∈ wr, b ∈ X) (hLX : L ∉ X) (hLf : L ∉ fp)
    (hlen : ∀ i vals, Pt i vals → xs.length = vals.size) (hl : ∀ x ∈ xs, env.kindOf x.1 = some .local) (hk : env.scope.kind = .function) (hL : env.locals = L)
    (Y : List Addr) (hY : ∀ y ∈ Y, y ∉ fp) (J : Nat → (Str → Option Value) → Heap → Shared → Prop) (h0 : J 0 m R s)
    (hJ : ∀ i m R s s', J i m R s → Mv (L :: wr) s s' → J i m R s')
    (step : ∀ i vals m₁ R₁ s₁, i < n → Pt i vals → Grow R R₁ s₀.heap → J i m₁ R₁ s₁ → Fm s₀ R₁ X L (bindAll m₁ (xs.map (·.1)) vals.toList) s₁ →
      wpAny (model prog w) A (execs body env) (fun f s₂ => match f with
        | .next | .cont => ∃ m₂ R₂, Grow R₁ R₂ s₀.heap ∧ Fm s₀ R₂ X L m₂ s₂ ∧ J (i + 1) m₂ R₂ s₂ ∧ KB (L :: Y) s₁.heap s₂.heap
        | .brk => Q .next s₂
        | .ret v => Q (.ret v) s₂) NoE s₁)
    (done : ∀ m₁ R₁ s₁, Grow R R₁ s₀.heap → Fm s₀ R₁ X L m₁ s₁ → J n m₁ R₁ s₁ → Q .next s₁) :
    ∃ (Inv : Nat → Shared → Prop) (q : Nat), Inv q s ∧ ∀ q s, Inv q s → wpAny (model prog w) A (pyNext (.ref I)) (fun r s₁ => match r with
        | none => Q .next s₁
        | some v => wpAny (model prog w) A (letOwnedTupleGo (.Tuple (xs.map fun x => Expr.Name x.1 x.2) k pos) (.ref I) v) (fun _ s₁' => wpAny (model prog w) A (assign (.Tuple (xs.map fun x => Expr.Name x.1 x.2) k pos) env v) (fun _ s₂ => wpAny (model prog w) A (execs body env) (fun f s₃ => match f with
            | .next | .cont => ∃ m, m < q ∧ Inv m s₃
            | .brk => Q .next s₃
            | .ret v => Q (.ret v) s₃) NoE s₂) NoE s₁') NoE s₁) NoE s := by
  refine ⟨fun q s => ∃ i m₁ R₁, q + i = n ∧ Grow R R₁ s₀.heap ∧ Fm s₀ R₁ X L m₁ s ∧ St i s.heap ∧ J i m₁ R₁ s, n, ⟨0, m, R, rfl, Grow.refl _ _, F, hst, h0⟩, ?_⟩
  intro q s hJo
  refine Classical.byContradiction fun hNo => ?_
  obtain ⟨i, m₁, R₁, hq, G₁, F₁, hst₁, hJ₁⟩ := hJo
  refine hNo ?_
  clear hNo
  refine drawU W hh F₁ hst₁ (by omega) hwr hLX hLf hlen hl hk hL (fun hi s₂ F₂ M₂ => ?_) fun hi vals s₂ hP F₂ M₂ hst₂ => ?_
  · subst hi
    exact done m₁ R₁ s₂ G₁ F₂ (hJ _ _ _ _ _ hJ₁ (M₂.mono fun y hy => List.mem_cons_of_mem _ hy))
  · refine wpAny_mono (step i vals m₁ R₁ s₂ hi hP G₁ (hJ _ _ _ _ _ hJ₁ M₂) F₂) (fun f s₃ h₃ => ?_) fun _ _ q => q
    have fin : (∃ m₂ R₂, Grow R₁ R₂ s₀.heap ∧ Fm s₀ R₂ X L m₂ s₃ ∧ J (i + 1) m₂ R₂ s₃ ∧ KB (L :: Y) s₂.heap s₃.heap) → ∃ m, m < q ∧ ∃ i m₁ R₁, m + i = n ∧ Grow R R₁ s₀.heap ∧ Fm s₀ R₁ X L m₁ s₃ ∧ St i s₃.heap ∧ J i m₁ R₁ s₃ := by
      intro hJo
      refine Classical.byContradiction fun hNo => ?_
      obtain ⟨m₂, R₂, G₂, F₃, hJ₃, K₃⟩ := hJo
      refine hNo ?_
      clear hNo
      refine ⟨q - 1, by omega, i + 1, m₂, R₂, by omega, G₁.trans G₂ (Sub.refl _), F₃, W.frame _ _ _ hst₂ fun b hb o e => K₃ b o ?_ e, hJ₃⟩
      intro hm
      rcases List.mem_cons.mp hm with rfl | hm
      · exact hLf hb
      · exact hY b hm hb
    cases f <;> first | exact fin h₃ | exact h₃

end

/-- the items of a dict, one by one -/
theorem walksItems {prog : Program} {w : World} {A : Around} {K : Type} [DecidableEq K] {knd : KeyKind prog w K} (hh : A.handled = none) (I d : Addr) (hne : d ≠ I) (kvs : List (K × Value)) (ep : Nat) :
    WalksU prog w A I [I, d] [I] kvs.length (fun i vals => ∃ k v key, kvs[i]? = some (k, v) ∧ knd.is k key = true ∧ vals = #[key, v])
      (fun i h => (∃ ok ov, IsItemIter h I d i kvs.length ep ok ov) ∧ h.DictAt knd d kvs ep)
      (fun i T h => T ≠ I ∧ (∃ ok ov, IsItemIterOut h I d (i + 1) kvs.length ep ok ov T) ∧ h.DictAt knd d kvs ep) where
  sub := by simp
  frame := fun i h h' st hk => ⟨let ⟨ok, ov, x⟩ := st.1; ⟨ok, ov, hk I (by simp) _ x⟩, st.2.at fun o e => hk d (by simp) o e⟩
  item := fun i s Q E hi st hQ => by
    refine Classical.byContradiction fun hNo => ?_
    obtain ⟨⟨ok, ov, hI⟩, hd⟩ := st
    refine hNo ?_
    clear hNo
    rcases hkv : kvs[i] with ⟨k, v⟩
    refine wpAny_pyNext_items_item hI hd (k := k) (v := v) (by rw [List.getElem?_eq_getElem hi, hkv]) fun key h' hkey hO hT hz hk => ?_
    have hlt : I < s.heap.objs.size := Heap.lt_size hI
    exact hQ s.heap.objs.size #[key, v] h' s.toks ⟨k, v, key, by rw [List.getElem?_eq_getElem hi, hkv], hkey, rfl⟩ ⟨_, hT, rfl, _, rfl⟩
      ⟨Nat.ne_of_gt hlt, ⟨_, _, hO⟩, hd.at fun o e => hk d o hne e⟩ fun b o hb e => hk b o (by simpa using hb) e
  go := fun elts k pos i T s Q E hM hQ => by
    refine Classical.byContradiction fun hNo => ?_
    obtain ⟨hTI, ⟨ok, ov, hO⟩, hd⟩ := hM
    refine hNo ?_
    clear hNo
    exact wpAny_letOwnedTupleGo_items hO fun h' hI hs => hQ h' ⟨⟨_, _, hI⟩, hd.at fun o e => hs.extBut d o hne e⟩ fun b o hb e => hs.extBut b o (by simpa using hb) e
  apart := fun i T h hM => by simpa using hM.1
  done := fun s Q E st hQ => by
    refine Classical.byContradiction fun hNo => ?_
    obtain ⟨⟨ok, ov, hI⟩, hd⟩ := st
    refine hNo ?_
    clear hNo
    exact wpAny_pyNext_items_end hh hI hd (by simp) fun h' he => hQ h' s.toks fun b o hb e => he b o (by simpa using hb) e
  self := fun i s Q E st hQ => let ⟨_, _, hI⟩ := st.1; kcp_self hI hQ

theorem dictAt_get {prog : Program} {w : World} {K : Type} [DecidableEq K] {knd : KeyKind prog w K} {h : Heap} {d : Addr} {kvs : List (K × Value)} {ep : Nat} (x : h.DictAt knd d kvs ep) : ∃ o, h.get? d = some o := let ⟨o, _, ho, _⟩ := x; ⟨o, ho⟩

/-- for a, b in o.items(): .. -/
theorem forItems {prog : Program} {w : World} {A : Around} {s₀ s : Shared} {R : Heap} {X : List Addr} {L : Addr} {m : Str → Option Value} {env : Env} {K : Type} [DecidableEq K] {knd : KeyKind prog w K}
    {xk xv : Str} {pk pv : Pos} {k : Nat} {tpos pos apos cpos : Pos} {o : Expr} {body : List Stmt} {d : Addr} {kvs : List (K × Value)} {ep : Nat} {Q : Flow → Shared → Prop}
    (hh : A.handled = none) (F : Fm s₀ R X L m s) (hd : R.DictAt knd d kvs ep) (lo : (d == sysModules) = false) (hX : ∀ x ∈ X, (s.heap.get? x).isSome = true)
    (hbase : attributeBase o "items" env (eval o env) = eval o env) (hline : (apos.endLine == cpos.line) = true) (ho : ∀ Q' : Value → Shared → Prop, Q' (.ref d) s → wpAny (model prog w) A (eval o env) Q' NoE s)
    (hxk : env.kindOf xk = some .local) (hxv : env.kindOf xv = some .local) (hk : env.scope.kind = .function) (hL : env.locals = L) (hLX : L ∉ X)
    (J : Nat → (Str → Option Value) → Heap → Shared → Prop) (h0 : J 0 m R s)
    (hJ : ∀ i m R s s', J i m R s → (∀ x ∈ X, ∀ o, s.heap.get? x = some o → s'.heap.get? x = some o) → s'.gens = s.gens → J i m R s')
    (step : ∀ i kk v key m₁ R₁ s₁ it, kvs[i]? = some (kk, v) → knd.is kk key = true → Grow R R₁ s₀.heap → J i m₁ R₁ s₁ → it ∉ X → it ≠ L → Fm s₀ R₁ (it :: X) L (fun y => if y = xv then some v else if y = xk then some key else m₁ y) s₁ →
      wpAny (model prog w) A (execs body env) (fun f s₂ => match f with
        | .next | .cont => ∃ m₂ R₂, Grow R₁ R₂ s₀.heap ∧ Fm s₀ R₂ (it :: X) L m₂ s₂ ∧ J (i + 1) m₂ R₂ s₂ ∧ KB (L :: X) s₁.heap s₂.heap
        | .brk => Q .next s₂
        | .ret v => Q (.ret v) s₂) NoE s₁)
    (done : ∀ m₁ R₁ s₁, Grow R R₁ s₀.heap → Fm s₀ R₁ X L m₁ s₁ → J kvs.length m₁ R₁ s₁ → Q .next s₁)
    (hs : ∀ x, foldedSetIterable (.Call (.Attribute o "items" apos) [] [] cpos) env x = pure x := by intro _; rfl) :
    wpAny (model prog w) A (exec (.For (.Tuple [.Name xk pk, .Name xv pv] k tpos) (.Call (.Attribute o "items" apos) [] [] cpos) body [] pos) env) Q NoE s := by
  refine wpFor (wpAny_Call_items lo (hd.at fun o e => F.has _ o e).dictOf hbase hline ho ?_) hs
  have F₂ := F.push (tk := s.toks) { cls := .type "dict_items", data := .fields #[.ref d] }
  refine wpAny_pyIter_items (knd := knd) (kvs := kvs) (ep := ep) (d := d) ⟨_, Heap.get?_push_size _ rfl, rfl, rfl⟩ (hd.at fun o e => F₂.has _ o e) ?_
  have F₃ := F₂.new (tk := s.toks) { cls := .type "dict_itemiterator", data := .fields #[.none, .bool false, .ref d, .int 0 0, .int kvs.length 0, .int ep 0, .none, .none] }
  have K₃ : Sub s.heap ((s.heap.push { cls := .type "dict_items", data := .fields #[.ref d] }).push { cls := .type "dict_itemiterator", data := .fields #[.none, .bool false, .ref d, .int 0 0, .int kvs.length 0, .int ep 0, .none, .none] }) := (sub_push _ _).trans (sub_push _ _)
  have hXi : (s.heap.push { cls := .type "dict_items", data := .fields #[.ref d] }).objs.size ∉ X := fun hm => by
    obtain ⟨o, ho⟩ := Option.isSome_iff_exists.mp (hX _ hm)
    exact absurd (Heap.lt_size (sub_push _ _ _ _ ho)) (Nat.lt_irrefl _)
  have hIt : IsItemIter ((s.heap.push { cls := .type "dict_items", data := .fields #[.ref d] }).push { cls := .type "dict_itemiterator", data := .fields #[.none, .bool false, .ref d, .int 0 0, .int kvs.length 0, .int ep 0, .none, .none] }) (s.heap.push { cls := .type "dict_items", data := .fields #[.ref d] }).objs.size d 0 kvs.length ep .none .none := Heap.get?_push_size _ rfl
  have hLi : L ≠ (s.heap.push { cls := .type "dict_items", data := .fields #[.ref d] }).objs.size := Nat.ne_of_lt F₂.lt
  generalize (s.heap.push { cls := .type "dict_items", data := .fields #[.ref d] }).objs.size = it at F₃ hXi hIt hLi ⊢
  obtain ⟨od, hod⟩ := dictAt_get hd
  have hdi : d ≠ it := F₃.ne hod (by simp)
  have hdL : d ≠ L := F₃.ne hod (by simp)
  refine loopU (k := k) (pos := tpos) (xs := [(xk, pk), (xv, pv)]) (walksItems (knd := knd) hh it d hdi kvs ep) hh F₃ ⟨⟨_, _, hIt⟩, hd.at fun o e => F₃.has _ o e⟩ (by simp) (by simp [hLi, hLX]) (by simp [hLi, Ne.symm hdL])
    (by rintro i vals ⟨k, v, key, _, _, rfl⟩; rfl) (by simp only [List.mem_cons, List.not_mem_nil, or_false]; rintro x (rfl | rfl) <;> assumption) hk hL X
    (fun y hy hf => by
      rcases List.mem_cons.mp hf with rfl | hf
      · exact hXi hy
      · obtain rfl := List.mem_singleton.mp hf; exact F₃.ne hod (by simp [hy]) rfl)
    J (hJ _ _ _ _ _ h0 (fun x hx o e => K₃ _ _ e) rfl)
    (fun i m R s s' hj M => hJ _ _ _ _ _ hj (fun x hx o e => M.kb x o (by simp only [List.mem_cons, List.not_mem_nil, or_false]; rintro (rfl | rfl); exact hLX hx; exact hXi hx) e) M.gens)
    (fun i vals m₁ R₁ s₁ hi hP G₁ hj F₁ => ?_) (fun m₁ R₁ s₁ G₁ F₁ hj => done m₁ R₁ s₁ G₁ (F₁.drop fun y hy => List.mem_cons_of_mem _ hy) hj)
  refine Classical.byContradiction fun hNo => ?_
  obtain ⟨kk, v, key, hkv, hkey, rfl⟩ := hP
  refine hNo ?_
  clear hNo
  exact step i kk v key m₁ R₁ s₁ it hkv hkey G₁ hj hXi (Ne.symm hLi) F₁

/-! ## calling a def of the text -/
theorem callF {prog : Program} {w : World} {A : Around} {E : Value → Shared → Prop} {s₀ s : Shared} {R : Heap} {X : List Addr} {L : Addr} {m : Str → Option Value} {env : Env} {mg : Str → Option Value} {d : DefRec} {x : Str} {np pos : Pos} {e : Expr} {rest : List Expr} {Q : Value → Shared → Prop}
    (F : Fm s₀ R X L m s) (hg : R.Ns mainGlobals mg) (fa : FnAt mg R d) (hx : d.name = x)
    (h : wpAny (model prog w) A (spliced (backTo pos (starEach (e :: rest) env))) (fun vs s₁ => Sub R s₁.heap ∧ ∀ a, mg x = some (.ref a) → wpAny (model prog w) A (call (.ref a) vs) Q E s₁) E s)
    (he : starEach (e :: rest) env = (false, eval e env) :: starEach rest env := by rfl)
    (hl : env.kindOf x = some .globalImplicit := by rfl) (hk : env.scope.kind = .function := by rfl) (hG : env.globals = mainGlobals := by rfl) (hd : (x == ("__debug__" : Str)) = false := by decide) :
    wpAny (model prog w) A (eval (.Call (.Name x np) (e :: rest) [] pos) env) Q E s := by
  refine Classical.byContradiction fun hNo => ?_
  obtain ⟨a, o, pm, cd, doc, h1, h2, h3, h4⟩ := fa
  refine hNo ?_
  clear hNo
  refine Call_ (nmG F hg (hx ▸ h1) ?_ hl hk hG hd)
  refine callWith_function (o := o) (fd := docDef d.name d.params d.body d.scope pm cd doc) ?_
  rw [he] at h ⊢
  refine evalArgs_plain (wpAny_mono h (fun vs s₁ h₁ => ⟨⟨h₁.1 _ _ h2, h3⟩, h₁.2 a (hx ▸ h1)⟩) fun _ _ q => q)

/-! ## add_callers -/
noncomputable def getI (acc : Kv) (k : Str) : Option Int := (acc.find? fun p => p.1 = k).map (·.2)
noncomputable def putI (acc : Kv) (k : Str) (i : Int) : Kv := if acc.any (fun p => p.1 = k) then acc.map (fun p => if p.1 = k then (p.1, i) else p) else acc ++ [(k, i)]
noncomputable def addRow (acc : Kv) (p : Str × Int) : Kv := match getI acc p.1 with
  | some i => putI acc p.1 (i + p.2)
  | none => putI acc p.1 p.2
noncomputable def addRows (a b : Kv) : Kv := b.foldl addRow a

theorem getI_of {kvs : List (Str × Value)} {acc : Kv} (h : All2 rowOk kvs acc) (k : Str) : match getI acc k with
    | some i => ∃ t, valueAt kvs k = some (.int i t)
    | none => valueAt kvs k = none := by
  induction acc generalizing kvs with
  | nil => cases kvs with
    | nil => rfl
    | cons _ _ => exact h.elim
  | cons p acc ih =>
    cases kvs with
    | nil => exact h.elim
    | cons kv kvs =>
      refine Classical.byContradiction fun hNo => ?_
      obtain ⟨⟨h1, t, h2⟩, hr⟩ := h
      refine hNo ?_
      clear hNo
      by_cases hk : p.1 = k
      · have e1 : getI (p :: acc) k = some p.2 := by simp [getI, hk]
        have e2 : valueAt (kv :: kvs) k = some kv.2 := by simp [valueAt, h1, hk]
        rw [e1, e2]; exact ⟨t, by rw [h2]⟩
      · have e1 : getI (p :: acc) k = getI acc k := by simp [getI, hk]
        have e2 : valueAt (kv :: kvs) k = valueAt kvs k := by simp [valueAt, h1, hk]
        rw [e1, e2]; exact ih hr
theorem any_of {kvs : List (Str × Value)} {acc : Kv} (h : All2 rowOk kvs acc) (k : Str) : (kvs.any fun kv => kv.1 = k) = acc.any fun p => p.1 = k := by
  induction acc generalizing kvs with
  | nil => cases kvs with
    | nil => rfl
    | cons _ _ => exact h.elim
  | cons p acc ih =>
    cases kvs with
    | nil => exact h.elim
    | cons kv kvs => rw [List.any_cons, List.any_cons, ih h.2, h.1.1]
theorem stored_of {kvs : List (Str × Value)} {acc : Kv} (h : All2 rowOk kvs acc) (k : Str) (i : Int) (t : Tok) : All2 rowOk (stored kvs k (.int i t)) (putI acc k i) := by
  unfold stored putI
  rw [any_of h k]
  split
  · rename_i hc; clear hc
    induction acc generalizing kvs with
    | nil => cases kvs with
      | nil => trivial
      | cons _ _ => exact h.elim
    | cons p acc ih =>
      cases kvs with
      | nil => exact h.elim
      | cons kv kvs =>
        refine ⟨?_, ih h.2⟩
        dsimp only
        rw [h.1.1]
        by_cases hk : p.1 = k
        · rw [if_pos hk, if_pos hk]; exact ⟨rfl, t, rfl⟩
        · rw [if_neg hk, if_neg hk]; exact h.1
  · exact h.append ⟨⟨rfl, t, rfl⟩, trivial⟩
theorem putI_len (acc : Kv) (k : Str) (i : Int) : (putI acc k i).length ≤ acc.length + 1 := by
  unfold putI; split <;> simp
theorem addRow_len (acc : Kv) (p : Str × Int) : (addRow acc p).length ≤ acc.length + 1 := by
  unfold addRow; split <;> exact putI_len ..
theorem addRows_len (b : Kv) : ∀ a : Kv, (addRows a b).length ≤ a.length + b.length := by
  induction b with
  | nil => intro a; exact Nat.le_refl _
  | cons p b ih => intro a; have h1 := ih (addRow a p); have h2 := addRow_len a p; simp only [addRows, List.foldl_cons, List.length_cons] at h1 ⊢; omega
theorem take_succ_of {α : Type} {l : List α} {i : Nat} {x : α} (h : l[i]? = some x) : l.take (i + 1) = l.take i ++ [x] := by
  rw [List.take_add_one, h]; rfl
theorem stored_fresh {kvs : List (Str × Value)} {i : Nat} {k : Str} {v : Value} (hn : (kvs.map (·.1)).Nodup) (hx : kvs[i]? = some (k, v)) : stored (kvs.take i) k v = kvs.take (i + 1) := by
  rw [take_succ_of hx]
  unfold stored
  rw [if_neg]
  intro h
  refine Classical.byContradiction fun hNo => ?_
  obtain ⟨kv, hm, he⟩ := List.any_eq_true.mp h
  obtain ⟨j, hj, e⟩ := List.getElem_of_mem hm
  refine hNo ?_
  clear hNo
  have hlt : i < kvs.length := (List.getElem?_eq_some_iff.mp hx).1
  have hji : j < i := by rw [List.length_take] at hj; omega
  have e1 : kvs[j]? = some kv := by rw [List.getElem_take] at e; rw [List.getElem?_eq_getElem (by omega), e]
  have e2 : (kvs.map (·.1))[j]? = some k := by rw [List.getElem?_map, e1]; simp at he; simp [he]
  have e3 : (kvs.map (·.1))[i]? = some k := by rw [List.getElem?_map, hx]; rfl
  refine Classical.byContradiction fun hNo => ?_
  obtain ⟨l2, e2'⟩ := List.getElem?_eq_some_iff.mp e2
  obtain ⟨l3, e3'⟩ := List.getElem?_eq_some_iff.mp e3
  refine hNo ?_
  clear hNo
  exact List.pairwise_iff_getElem.mp hn j i l2 l3 hji (e2'.trans e3'.symm)

theorem lo_of_ns {h : Heap} {mg : Str → Option Value} (hg : h.Ns mainGlobals mg) : (h.objs.size == sysModules) = false := by
  have := hg.lt
  refine beq_eq_false_iff_ne.mpr (Nat.ne_of_gt (Nat.lt_of_le_of_lt ?_ this))
  decide
theorem add_callers_body {prog : Program} {w : World} {A : Around} {s₀ s : Shared} {R : Heap} {L a d₁ d₂ : Addr} {cd : Value} {l₁ l₂ : Kv} {mg mb : Str → Option Value} (hA : AOk A 2)
    (F : Fm s₀ R [] L (fun x => [(("target" : Str), Value.ref d₁), ("source", .ref d₂)].reverse.lookup x) s) (h₁ : IsRows prog w R d₁ l₁) (h₂ : IsRows prog w R d₂ l₂) (hsz : l₁.length + l₂.length ≤ 2 ^ 20)
    (hg : R.Ns mainGlobals mg) (hb : R.Ns builtinsNs mb) (hi1 : mg "isinstance" = none) (hi2 : mb "isinstance" = some (.builtin "isinstance")) (ht1 : mg "tuple" = none) (ht2 : mb "tuple" = some (.type "tuple")) :
    wpAny (model prog w) A (execs (fn 2).body (envOf (fn 2).name (fn 2).scope L a cd))
      (fun f s' => Ret s₀ R (fun R' v => ∃ d, v = .ref d ∧ IsRows prog w R' d (addRows l₁ l₂)) (match f with | .ret v => v | _ => .none) s') NoE s := by
  refine Classical.byContradiction fun hNo => ?_
  obtain ⟨lo₁, kvs₁, ep₁, hd₁, hk₁⟩ := h₁
  obtain ⟨lo₂, kvs₂, ep₂, hd₂, hk₂⟩ := h₂
  refine hNo ?_
  clear hNo
  have e₁ := hk₁.length
  have e₂ := hk₂.length
  refine wpAny_execs_cons (wpAny_Assign_Name (wpAny_Dict_empty ?_))
  have FD := F.new (tk := s.toks) { cls := .type "dict", data := .dict #[] }
  have hD : (s.heap.push { cls := .type "dict", data := .dict #[] }).DictOf (strKind prog w) s.heap.objs.size [] := Heap.DictOf.new _
  have hLD : L ≠ s.heap.objs.size := Nat.ne_of_lt F.lt
  have hDlo : (s.heap.objs.size == sysModules) = false := lo_of_ns (hg.keeps F.has)
  generalize s.heap.objs.size = D at FD hD hLD hDlo ⊢
  refine stL FD fun s₁ F₁ M₁ => ?_
  replace hD : s₁.heap.DictOf (strKind prog w) D [] := hD.at (M₁.at (by simpa using Ne.symm hLD))
  refine Classical.byContradiction fun hNo => ?_
  obtain ⟨o₁, ho₁⟩ := dictAt_get hd₁
  obtain ⟨o₂, ho₂⟩ := dictAt_get hd₂
  refine hNo ?_
  clear hNo
  have live : ∀ {s : Shared} {kvs : List (Str × Value)}, s.heap.DictOf (strKind prog w) D kvs → ∀ x ∈ [D], (s.heap.get? x).isSome = true := fun h x hx => by
    obtain rfl := List.mem_singleton.mp hx
    obtain ⟨o, _, _, ho, _⟩ := h; rw [ho]; rfl
  -- the first loop
  refine wpAny_execs_cons (forItems hA.hh F₁ hd₁ lo₁ (live hD) rfl rfl (fun Q' q => nmL F₁ rfl q) rfl rfl rfl rfl (by simpa using hLD)
    (fun i m' _ s => m' "new_callers" = some (.ref D) ∧ m' "source" = some (.ref d₂) ∧ s.heap.DictOf (strKind prog w) D (kvs₁.take i)) ⟨rfl, rfl, hD⟩
    (fun i m R s s' h k g => ⟨h.1, h.2.1, h.2.2.at (k D (by simp))⟩) (fun i kk v key m₂ R₂ s₂ it hkv hkey G₂ hj hi hiL F₂ => ?_) fun m₂ R₂ s₂ G₂ F₂ hj => ?_)
  · obtain ⟨hnew, hsrc, hD₂⟩ := hj
    refine wpAny_execs_cons (wpAny_Assign_Subscript (nmL F₂ rfl (nmL F₂ hnew (nmL F₂ rfl ?_))))
    refine wpAny_setItem_pairs hkey hD₂ (fun h' hD' hs' => ?_) (hsz := by rw [sizeLine_eq, List.length_take]; omega)
    refine wpAny_execs_nil ⟨_, R₂, Grow.refl _ _, F₂.other (KB.of_same hs' (by simp)) (by simp [Ne.symm hiL, hLD]), ⟨hnew, hsrc, ?_⟩, KB.of_same hs' (by simp)⟩
    rw [← stored_fresh hd₁.nodup hkv]; exact hD'
  -- the second loop
  refine Classical.byContradiction fun hNo => ?_
  obtain ⟨hnew, hsrc, hD₂⟩ := hj
  refine hNo ?_
  clear hNo
  rw [List.take_length] at hD₂
  have hd₂' : R₂.DictAt (strKind prog w) d₂ kvs₂ ep₂ := hd₂.at fun o e => G₂.sub _ o e
  refine wpAny_execs_cons (forItems hA.hh F₂ hd₂' lo₂ (live hD₂) rfl rfl (fun Q' q => nmL F₂ hsrc q) rfl rfl rfl rfl (by simpa using hLD)
    (fun i m' _ s => m' "new_callers" = some (.ref D) ∧ ∃ kvs, s.heap.DictOf (strKind prog w) D kvs ∧ All2 rowOk kvs (addRows l₁ (l₂.take i))) ⟨hnew, kvs₁, hD₂, by simpa [addRows] using hk₁⟩
    (fun i m R s s' h k g => ⟨h.1, let ⟨kvs, h1, h2⟩ := h.2; ⟨kvs, h1.at (k D (by simp)), h2⟩⟩) (fun i kk v key m₃ R₃ s₃ it hkv hkey G₃ hj hi hiL F₃ => ?_) fun m₃ R₃ s₃ G₃ F₃ hj => ?_)
  · obtain ⟨hnew, kvs, hD₃, hall⟩ := hj
    refine Classical.byContradiction fun hNo => ?_
    obtain ⟨p, hp, hr, t, hv⟩ := hk₂.get hkv
    refine hNo ?_
    clear hNo
    dsimp only at hr hv; subst hr hv
    have hlen : kvs.length ≤ 2 ^ 20 := by
      have h1 := addRows_len (l₂.take i) l₁
      have h2 := hall.length
      have h3 : i < l₂.length := (List.getElem?_eq_some_iff.mp hp).1
      rw [List.length_take] at h1; omega
    have hset : addRows l₁ (l₂.take (i + 1)) = addRow (addRows l₁ (l₂.take i)) p := by
      rw [take_succ_of hp, addRows, addRows, List.foldl_append]; rfl
    have hget := getI_of hall p.1
    refine wpAny_execs_cons (wpAny_If (wpAny_isTrue_Compare1 (nmL F₃ rfl (nmL F₃ hnew (wpAny_in_of hkey hDlo hD₃.mapOf (wpAny_truthy_bool ?_))))))
    have F₄ := F₃.tok (tk := s₃.toks + 1)
    cases hgi : getI (addRows l₁ (l₂.take i)) p.1 with
    | none =>
      rw [hgi] at hget; dsimp only at hget
      rw [hget]
      show wpAny _ _ (execs _ _) _ _ _
      refine wpAny_execs_cons (wpAny_Assign_Subscript (nmL F₄ rfl (nmL F₄ hnew (nmL F₄ rfl ?_))))
      refine wpAny_setItem_pairs hkey hD₃ (fun h' hD' hs' => ?_) (hsz := by rw [sizeLine_eq]; omega)
      refine wpAny_execs_nil (wpAny_execs_nil ⟨_, R₃, Grow.refl _ _, F₄.other (KB.of_same hs' (by simp)) (by simp [Ne.symm hiL, hLD]), ⟨hnew, _, hD', ?_⟩, KB.of_same hs' (by simp)⟩)
      rw [hset, addRow, hgi]; exact stored_of hall _ _ _
    | some j =>
      rw [hgi] at hget; dsimp only at hget
      obtain ⟨u, hget⟩ := hget
      rw [hget]
      show wpAny _ _ (execs _ _) _ _ _
      refine wpAny_execs_cons (wpAny_If ?_)
      refine isTrue_plain (Call_ (nmB F₄ (hg.keeps (G₂.trans G₃ (Sub.refl _)).sub) (hb.keeps (G₂.trans G₃ (Sub.refl _)).sub) hi1 hi2 (callWith_builtin rfl (evalArgs_plain (args_cons (nmL F₄ rfl (args_cons (nmB F₄ (hg.keeps (G₂.trans G₃ (Sub.refl _)).sub) (hb.keeps (G₂.trans G₃ (Sub.refl _)).sub) ht1 ht2 (args_nil (PySem.IsiPair.int_tuple (wpAny_truthy_bool ?_)))))))))))
      show wpAny _ _ (execs _ _) _ _ _
      have F₅ := F₄.tok (tk := s₃.toks + 1 + 1)
      refine wpAny_execs_cons (wpAny_AugAssign_Subscript (nmL F₅ hnew (nmL F₅ rfl (wpAny_getItem_of hkey hD₃.mapOf hget (nmL F₅.tok rfl (wpAny_iadd_int ?_))))))
      refine wpAny_setItem_pairs hkey hD₃ (fun h' hD' hs' => ?_) (hsz := by rw [sizeLine_eq]; omega)
      refine wpAny_execs_nil (wpAny_execs_nil (wpAny_execs_nil ⟨_, R₃, Grow.refl _ _, F₅.other (KB.of_same hs' (by simp)) (by simp [Ne.symm hiL, hLD]), ⟨hnew, _, hD', ?_⟩, KB.of_same hs' (by simp)⟩))
      rw [hset, addRow, hgi]; exact stored_of hall _ _ _
  · obtain ⟨hnew, kvs, hD₃, hall⟩ := hj
    rw [hk₂.length, List.take_length] at hall
    refine wpAny_execs_cons (wpAny_Return_some (nmL F₃ hnew ?_))
    refine Classical.byContradiction fun hNo => ?_
    obtain ⟨oD, es, ep, hoD, r⟩ := id hD₃
    obtain ⟨R₄, G₄, S₄, h₄⟩ := Grow.add (h := s₀.heap) F₃.has hoD (F₃.out D (by simp)).2
    refine hNo ?_
    clear hNo
    exact ⟨F₃.step, R₄, (G₂.trans G₃ (Sub.refl _)).trans G₄ (Sub.refl _), S₄, D, rfl, hDlo, kvs, ep, ⟨oD, es, h₄, r⟩, hall⟩
end Mine
end
section
open PySem PySem.W PySem.Calls PyProof.Rows
set_option maxRecDepth 100000
set_option linter.unusedVariables false
set_option linter.unusedSimpArgs false
namespace Mine

/-! ## what the tables are asked -/
noncomputable def b1L : List Int := [173, 847, 6150, 6155, 6156, 6157, 8203, 8204, 8205, 8288, 65279, 65024, 65025, 65026, 65027, 65028, 65029, 65030, 65031, 65032, 65033, 65034, 65035, 65036, 65037, 65038, 65039]
structure Fam where
  first : Nat
  second : Nat
  others : List (Nat × List Nat)
noncomputable def fam : Nat → Fam
  | 0 => ⟨115, 116, [(223, [115, 115]), (64261, [115, 116]), (383, [115])]⟩
  | 1 => ⟨102, 105, [(64256, [102, 102]), (64257, [102, 105]), (8497, [102])]⟩
  | 2 => ⟨104, 112, [(13259, [104, 112]), (13271, [112, 104]), (8473, [112])]⟩
  | _ => ⟨107, 109, [(13261, [107, 107]), (13262, [107, 109]), (119974, [107])]⟩
noncomputable def offs : Nat → Int
  | 0 => 0
  | 1 => -32
  | _ => 119711
noncomputable def famLetter (i j : Nat) : Nat := if j % 2 = 1 then (fam i).second else (fam i).first
noncomputable def signP (i j : Nat) : Nat × List Nat := if j > 5 then (fam i).others.getD (j - 6) (0, []) else (((famLetter i j : Nat) : Int) + offs (j / 2) |>.toNat, [famLetter i j])
noncomputable def b3Says (f : Int → Option Value) (p : Nat × List Nat) : Prop :=
  (∃ t, f (p.1 : Int) = some (.str ⟨p.2.toArray⟩ t)) ∨ (f (p.1 : Int) = none ∧ Txt.lower ⟨#[p.1]⟩ = ⟨p.2.toArray⟩)
theorem setOf_keeps {prog : Program} {w : World} {K : Type} [DecidableEq K] {knd : KeyKind prog w K} {h h' : Heap} {a : Addr} {S : K → Bool} {n : Nat} (x : h.SetOf knd a S n) (k : Sub h h') : h'.SetOf knd a S n :=
  let ⟨o, es, ep, t, ho, r⟩ := x; ⟨o, es, ep, t, k _ _ ho, r⟩
theorem mapOf_keeps {prog : Program} {w : World} {K : Type} [DecidableEq K] {knd : KeyKind prog w K} {h h' : Heap} {a : Addr} {f : K → Option Value} (x : h.MapOf knd a f) (k : Sub h h') : h'.MapOf knd a f :=
  let ⟨o, es, ep, ho, r⟩ := x; ⟨o, es, ep, k _ _ ho, r⟩

/-! ## the globals -/
structure GE (prog : Program) (w : World) (mg mb : Str → Option Value) (R : Heap) : Prop where
  g : R.Ns mainGlobals mg
  b : R.Ns builtinsNs mb
  lim : R.NoLimit
  fns : ∀ i ∈ [1, 2, 3, 5, 6, 7, 10, 12, 14, 15, 16, 17, 18, 19, 20, 21], FnAt mg R (fn i)
  isi : mg "isinstance" = none ∧ mb "isinstance" = some (.builtin "isinstance")
  tup : mg "tuple" = none ∧ mb "tuple" = some (.type "tuple")
  enu : mg "enumerate" = none ∧ mb "enumerate" = some (.type "enumerate")
  len : mg "len" = none ∧ mb "len" = some (.builtin "len")
  ord : mg "ord" = none ∧ mb "ord" = some (.builtin "ord")
  chr : mg "chr" = none ∧ mb "chr" = some (.builtin "chr")
  rng : mg "range" = none ∧ mb "range" = some (.type "range")
  sum : mg "sum" = none ∧ mb "sum" = some (.builtin "sum")
  zip : mg "zip" = none ∧ mb "zip" = some (.type "zip")
  b1 : ∃ a n, mg "b1_set" = some (.ref a) ∧ R.SetOf (intKind prog w) a (fun k => decide (k ∈ b1L)) n
  b3 : ∃ d f, mg "b3_exceptions" = some (.ref d) ∧ (d == sysModules) = false ∧ R.MapOf (intKind prog w) d f ∧ ∀ i, i < 4 → ∀ j, j < 9 → b3Says f (signP i j)
theorem GE.keeps {prog : Program} {w : World} {mg mb : Str → Option Value} {R R' : Heap} (G : GE prog w mg mb R) (k : Sub R R') : GE prog w mg mb R' :=
  ⟨G.g.keeps k, G.b.keeps k, G.lim.keeps k, fun i hi => (G.fns i hi).keeps k, G.isi, G.tup, G.enu, G.len, G.ord, G.chr, G.rng, G.sum, G.zip, let ⟨a, n, h1, h2⟩ := G.b1; ⟨a, n, h1, setOf_keeps h2 k⟩, let ⟨d, f, h1, h2, h3, h4⟩ := G.b3; ⟨d, f, h1, h2, mapOf_keeps h3 k, h4⟩⟩

section
variable {prog : Program} {w : World} {A : Around} {s : Shared} {R : Heap} {mg mb : Str → Option Value}

/-- entering the i-th def -/
theorem enterFn (G : GE prog w mg mb R) (i : Nat) {k : Nat} {args : List Value} {binds : List (Str × Value)} {P : Heap → Value → Prop} {a : Addr} {x : Str}
    (hA : AOk A (k + 1)) (hR : Sub R s.heap) (hx : (fn i).name = x) (ha : mg x = some (.ref a))
    (hi : i ∈ [1, 2, 3, 5, 6, 7, 10, 12, 14, 15, 16, 17, 18, 19, 20, 21])
    (hbind : ∀ pm cd doc, bindArgs (docDef (fn i).name (fn i).params (fn i).body (fn i).scope pm cd doc) ⟨args, []⟩ = pure binds)
    (hloc : (binds.all fun x => decide ((fn i).scope.names.lookup x.1 = some .local)) = true)
    (h : ∀ L cd s₁, Fm s R [] L (fun x => binds.reverse.lookup x) s₁ → s₁.gens = s.gens → AOk (A.deeper (envOf (fn i).name (fn i).scope L a cd)) k →
      wpAny (model prog w) (A.deeper (envOf (fn i).name (fn i).scope L a cd)) (execs (fn i).body (envOf (fn i).name (fn i).scope L a cd))
        (fun f s' => Ret s R P (match f with | .ret v => v | _ => .none) s') NoE s₁)
    (hco : (fn i).scope.isCoroutine = false) (hgen : (fn i).scope.isGenerator = false) (hk : (fn i).scope.kind = .function)
    (hcell : ∀ x ∈ (fn i).scope.names, x.2 ≠ .cell) :
    wpAny (model prog w) A (call (.ref a) args) (Ret s R P) NoE s := by
  refine Classical.byContradiction fun hNo => ?_
  obtain ⟨a', o, pm, cd, doc, h1, h2, h3, h4⟩ := G.fns i hi
  refine hNo ?_
  clear hNo
  rw [hx, ha] at h1
  cases h1
  exact enter (d := fn i) hA hR G.lim h2 h3 h4 (hbind pm cd doc) hloc (fun L s₁ F hg A' => h L cd s₁ F hg A') hco hgen hk hcell

theorem count_calls_spec (G : GE prog w mg mb R) (hA : AOk A 5) (hR : Sub R s.heap) {d : Addr} {l : Kv} (hl : IsRows prog w R d l) (a : Addr) (ha : mg "count_calls" = some (.ref a)) :
    wpAny (model prog w) A (call (.ref a) [.ref d]) (Ret s R (fun _ v => ∃ t, v = .int (sumRows l) t)) NoE s :=
  enterFn G 3 (k := 4) (binds := [("callers", .ref d)]) hA hR rfl ha (by simp) (fun _ _ _ => rfl) (by rfl)
    (fun L cd s₁ F _ A' => count_calls_body (A'.le (by omega)) F hl) rfl rfl rfl (by decide +kernel)

theorem add_callers_spec (G : GE prog w mg mb R) (hA : AOk A 5) (hR : Sub R s.heap) {d₁ d₂ : Addr} {l₁ l₂ : Kv} (h₁ : IsRows prog w R d₁ l₁) (h₂ : IsRows prog w R d₂ l₂) (hsz : l₁.length + l₂.length ≤ 2 ^ 20)
    (a : Addr) (ha : mg "add_callers" = some (.ref a)) :
    wpAny (model prog w) A (call (.ref a) [.ref d₁, .ref d₂]) (Ret s R (fun R' v => ∃ d, v = .ref d ∧ IsRows prog w R' d (addRows l₁ l₂))) NoE s :=
  enterFn G 2 (k := 4) (binds := [("target", .ref d₁), ("source", .ref d₂)]) hA hR rfl ha (by simp) (fun _ _ _ => rfl) (by rfl)
    (fun L cd s₁ F _ A' => add_callers_body (A'.le (by omega)) F h₁ h₂ hsz G.g G.b G.isi.1 G.isi.2 G.tup.1 G.tup.2) rfl rfl rfl (by decide +kernel)

/-! ## add_func_stats -/
structure Ent where
  cc : Int
  nc : Int
  tt : Int
  ct : Int
  rows : Kv
noncomputable def IsEnt (prog : Program) (w : World) (h : Heap) (v : Value) (e : Ent) : Prop :=
  ∃ T t1 t2 t3 t4 d, v = .ref T ∧ h.IsTuple T #[.int e.cc t1, .int e.nc t2, .int e.tt t3, .int e.ct t4, .ref d] ∧ IsRows prog w h d e.rows
theorem isTuple_keeps {h h' : Heap} {T : Addr} {vs : Array Value} (x : h.IsTuple T vs) (k : Sub h h') : h'.IsTuple T vs := let ⟨o, ho, r⟩ := x; ⟨o, k _ _ ho, r⟩
theorem isList_keeps {h h' : Heap} {T : Addr} {vs : Array Value} (x : h.IsList T vs) (k : Sub h h') : h'.IsList T vs := let ⟨o, ho, r⟩ := x; ⟨o, k _ _ ho, r⟩
theorem IsEnt.keeps {h h' : Heap} {v : Value} {e : Ent} (x : IsEnt prog w h v e) (k : Sub h h') : IsEnt prog w h' v e :=
  let ⟨T, t1, t2, t3, t4, d, h1, h2, h3⟩ := x; ⟨T, t1, t2, t3, t4, d, h1, isTuple_keeps h2 k, h3.keeps k⟩
noncomputable def addEnt (t s : Ent) : Ent := ⟨s.cc + t.cc, s.nc + t.nc, s.tt + t.tt, s.ct + t.ct, addRows t.rows s.rows⟩

theorem add_func_stats_spec (G : GE prog w mg mb R) (hA : AOk A 8) (hR : Sub R s.heap) {v₁ v₂ : Value} {e₁ e₂ : Ent} (h₁ : IsEnt prog w R v₁ e₁) (h₂ : IsEnt prog w R v₂ e₂) (hsz : e₁.rows.length + e₂.rows.length ≤ 2 ^ 20)
    (a : Addr) (ha : mg "add_func_stats" = some (.ref a)) :
    wpAny (model prog w) A (call (.ref a) [v₁, v₂]) (Ret s R (fun R' v => IsEnt prog w R' v (addEnt e₁ e₂))) NoE s := by
  refine enterFn G 1 (k := 7) (binds := [("target", v₁), ("source", v₂)]) hA hR rfl ha (by simp) (fun _ _ _ => rfl) (by rfl)
    (fun L cd s₁ F _ A' => ?_) rfl rfl rfl (by decide +kernel)
  refine Classical.byContradiction fun hNo => ?_
  obtain ⟨T₁, t1, t2, t3, t4, d₁, rfl, hT₁, hr₁⟩ := h₁
  obtain ⟨T₂, u1, u2, u3, u4, d₂, rfl, hT₂, hr₂⟩ := h₂
  refine hNo ?_
  clear hNo
  refine wpAny_execs_cons (Assign_Tuple (nmL F rfl ?_))
  refine assignTup (k := 0) (xs := [("cc", ⟨3, 4, 3, 6⟩), ("nc", ⟨3, 8, 3, 10⟩), ("tt", ⟨3, 12, 3, 14⟩), ("ct", ⟨3, 16, 3, 18⟩), ("callers", ⟨3, 20, 3, 27⟩)]) A'.hh F (isTuple_keeps hT₂ F.has) rfl
    (by simp only [List.mem_cons, List.not_mem_nil, or_false]; rintro x (rfl | rfl | rfl | rfl | rfl) <;> rfl) rfl rfl fun s₂ F₂ M₂ => ?_
  refine wpAny_execs_cons (Assign_Tuple (nmL F₂ rfl ?_))
  refine assignTup (k := 0) (xs := [("t_cc", ⟨4, 4, 4, 8⟩), ("t_nc", ⟨4, 10, 4, 14⟩), ("t_tt", ⟨4, 16, 4, 20⟩), ("t_ct", ⟨4, 22, 4, 26⟩), ("t_callers", ⟨4, 28, 4, 37⟩)]) A'.hh F₂ (isTuple_keeps hT₁ F₂.has) rfl
    (by simp only [List.mem_cons, List.not_mem_nil, or_false]; rintro x (rfl | rfl | rfl | rfl | rfl) <;> rfl) rfl rfl fun s₃ F₃ M₃ => ?_
  refine wpAny_execs_cons (wpAny_Return_some (Tuple_ ?_))
  refine args_cons (wpAny_BinOp (nmL F₃ rfl (nmL F₃ rfl (wpAny_add_int ?_))))
  refine args_cons (wpAny_BinOp (nmL F₃.tok rfl (nmL F₃.tok rfl (wpAny_add_int ?_))))
  refine args_cons (wpAny_BinOp (nmL F₃.tok rfl (nmL F₃.tok rfl (wpAny_add_int ?_))))
  refine args_cons (wpAny_BinOp (nmL F₃.tok rfl (nmL F₃.tok rfl (wpAny_add_int ?_))))
  have F₄ := F₃.tok (tk := s₃.toks + 1 + 1 + 1 + 1)
  refine args_cons (callF F₄ G.g (G.fns 2 (by simp)) rfl (args_cons (nmL F₄ rfl (args_cons (nmL F₄ rfl (args_nil ⟨F₄.has, fun a' ha' => ?_⟩))))))
  refine wpAny_mono (add_callers_spec G (A'.le (by omega)) F₄.has hr₁ hr₂ hsz a' ha') (fun v s₄ h₄ => ?_) fun _ _ q => q
  refine Classical.byContradiction fun hNo => ?_
  obtain ⟨st, R', G', S', d, rfl, hd⟩ := h₄
  refine hNo ?_
  clear hNo
  have F₅ := F₄.call st G' S' (by simp)
  refine args_nil (wpAny_newTuple ?_)
  have F₆ := F₅.push (tk := s₄.toks) { cls := .type "tuple", data := .seq #[.int (e₂.cc + e₁.cc) s₃.toks, .int (e₂.nc + e₁.nc) (s₃.toks + 1), .int (e₂.tt + e₁.tt) (s₃.toks + 1 + 1), .int (e₂.ct + e₁.ct) (s₃.toks + 1 + 1 + 1), .ref d] }
  refine Classical.byContradiction fun hNo => ?_
  obtain ⟨R₇, G₇, S₇, h₇⟩ := Grow.add (h := s.heap) F₆.has (Heap.get?_push_size _ rfl) (F₅.none_of (get_size_none _)).2
  refine hNo ?_
  clear hNo
  exact ⟨F₆.step, R₇, (G'.back F₄.step.sub).trans G₇ (Sub.refl _), S₇, _, _, _, _, _, d, rfl, ⟨_, h₇, rfl, _, rfl⟩, hd.keeps G₇.sub⟩
end
end Mine
end
section
open PySem PySem.W PySem.Calls PyProof.Rows
set_option maxRecDepth 100000
set_option linter.unusedVariables false
set_option linter.unusedSimpArgs false
namespace Mine

/-! ## generator bodies: rules over Seg -/
section
variable {M : Model} {A : Around} {R : GenEnd} {Y : Protocol} {n : Nat} {s₀ : Shared} {c : Code} {fs : List Frame} {s : Shared} {env : Env}
  {K : Flow → Sem Fin} {H : Value → Sem Fin} {gd : Bool → Bool} {lv : List Value → List Value}

/-- a statement that yields nothing -/
theorem seg_stmt {st : Stmt} (h : wpAny M (A.over c fs) (exec st env) (fun f s' => Seg M A R Y n s₀ c (K f) fs s') NoE s) :
    Seg M A R Y n s₀ c ((exec st env).wrap K H gd lv) fs s :=
  seg_wrap (wpAny_mono h (fun _ _ q => q) fun _ _ f => f.elim)

theorem seg_If {test : Expr} {body orelse : List Stmt} {pos : Pos}
    (h : wpAny M (A.over c fs) (isTrue test env (eval test env)) (fun b s' => Seg M A R Y n s₀ c ((execs (if b then body else orelse) env).wrap K H gd lv) fs s') NoE s) :
    Seg M A R Y n s₀ c ((exec (.If test body orelse pos) env).wrap K H gd lv) fs s := by
  rw [exec_If]
  refine seg_at ?_
  show Seg M A R Y n s₀ c ((isTrue test env (eval test env) >>= fun b => if b = true then execs body env else execs orelse env).wrap K H gd lv) fs s
  rw [Sem.bind_eq_wrap', Sem.wrap_wrap]
  refine seg_wrap (wpAny_mono h (fun b s' h' => ?_) fun _ _ f => f.elim)
  cases b <;> exact h'

theorem seg_For {target iter : Expr} {body orelse : List Stmt} {pos : Pos}
    (h : wpAny M (A.over c fs) (eval iter env) (fun x s₁ => wpAny M (A.over c fs) (pyIter x) (fun it s₂ => ∀ p,
      Seg M A R Y n s₀ (.forLoop target it body orelse env) (M.den (.forLoop target it body orelse env))
        (.ret (fun r => ((match r with | .ok f => (.pure f : Sem Flow) | .error e => .raise e).onRaise fun (x : Value) => do
          if (← field x 1) == Value.none then unsupported "frame.own-activation:exception-without-traceback"
          setFlight x env.frame).wrap K H gd lv) none (gd false) (lv []) c p [] :: fs) s₂) NoE s₁) NoE s)
    (hs : ∀ x, foldedSetIterable iter env x = pure x := by intro _; rfl) :
    Seg M A R Y n s₀ c ((exec (.For target iter body orelse pos) env).wrap K H gd lv) fs s := by
  rw [exec_For]
  refine seg_at ?_
  show Seg M A R Y n s₀ c ((eval iter env >>= fun y => (foldedSetIterable iter env y >>= fun x => (standAt iter.pos >>= fun _ => (holding [x] (pyIter x) >>= fun it =>
    runOwn (.forLoop target it body orelse env) env)))).wrap K H gd lv) fs s
  simp only [hs, pure_bind]
  rw [Sem.bind_eq_wrap', Sem.wrap_wrap]
  refine seg_wrap (wpAny_mono h (fun x s₁ h₁ => ?_) fun _ _ f => f.elim)
  refine seg_at ?_
  show Seg M A R Y n s₀ c ((holding [x] (pyIter x) >>= fun it => runOwn (.forLoop target it body orelse env) env).wrap K H (fun g => gd (id g)) (fun l => lv (id l))) fs s₁
  rw [Sem.bind_eq_wrap', Sem.wrap_wrap]
  refine seg_wrap (wpAny_holding (wpAny_mono h₁ (fun it s₂ h₂ => ?_) fun _ _ f => f.elim))
  exact seg_call h₂
end

section
variable {prog : Program} {w : World} {A : Around} {R : GenEnd} {Y : Protocol} {n : Nat} {s₀ : Shared} {fs : List Frame} {s : Shared} {env : Env}

noncomputable abbrev forK (target : Expr) (it : Value) (body orelse : List Stmt) (env : Env) : Flow → Sem Fin := fun f => match f with
  | .next | .cont => .pure (.again (.forLoop target it body orelse env))
  | .brk => .pure (.done .next)
  | .ret v => .pure (.done (.ret v))
noncomputable abbrev forH (env : Env) : Value → Sem Fin := fun e => (do noteFrame e env; theTreesLotGoes e : Sem Unit).wrap (fun _ => .raise e) .raise id id

theorem seg_forLoop {target : Expr} {it : Value} {body orelse : List Stmt}
    (h : wpAny (model prog w) (A.over (.forLoop target it body orelse env) fs) (pyNext it) (fun r s₁ => match r with
      | none => Seg (model prog w) A R Y n s₀ (.forLoop target it body orelse env) (.pure (.again (.block orelse env))) fs s₁
      | some v => wpAny (model prog w) (A.over (.forLoop target it body orelse env) fs) (letOwnedTupleGo target it v) (fun _ s₁' => wpAny (model prog w) (A.over (.forLoop target it body orelse env) fs) (assign target env v) (fun _ s₂ =>
          Seg (model prog w) A R Y n s₀ (.forLoop target it body orelse env) ((execs body env).wrap (forK target it body orelse env) (forH env) id id) fs s₂) NoE s₁') NoE s₁) NoE s) :
    Seg (model prog w) A R Y n s₀ (.forLoop target it body orelse env) ((model prog w).den (.forLoop target it body orelse env)) fs s := by
  show Seg _ A R Y n s₀ _ ((forTurn target it body orelse env).onRaise (fun x => do noteFrame x env; theTreesLotGoes x)) fs s
  unfold forTurn
  rw [Sem.onRaise_eq_wrap]
  refine seg_at ?_
  show Seg _ A R Y n s₀ _ (((pyNext it).onRaise (fun _ => standAt { target.pos with line := 0 }) >>= fun r => match r with
    | none => again (.block orelse env)
    | some v => do
      letOwnedTupleGo target it v
      assign target env v
      match ← execs body env with
      | .next | .cont => again (.forLoop target it body orelse env)
      | .brk => pure (.done .next)
      | .ret v => pure (.done (.ret v))).wrap Sem.pure (fun e => (do noteFrame e env; theTreesLotGoes e : Sem Unit).bind fun _ => .raise e) id id) fs s
  rw [Sem.bind_eq_wrap', Sem.wrap_wrap]
  refine seg_wrap (wpAny_onRaise (wpAny_mono h (fun r s₁ h₁ => ?_) fun _ _ f => f.elim))
  cases r with
  | none => exact h₁
  | some v =>
    show Seg _ A R Y n s₀ _ ((letOwnedTupleGo target it v >>= fun _ => (assign target env v >>= fun _ => (execs body env >>= fun f => match f with
      | .next | .cont => again (.forLoop target it body orelse env)
      | .brk => pure (.done .next)
      | .ret v => pure (.done (.ret v))))).wrap _ _ _ _) fs s₁
    rw [Sem.bind_eq_wrap', Sem.wrap_wrap]
    refine seg_wrap (wpAny_mono h₁ (fun _ s₂ h₂ => ?_) fun _ _ f => f.elim)
    rw [Sem.bind_eq_wrap', Sem.wrap_wrap]
    refine seg_wrap (wpAny_mono h₂ (fun _ s₃ h₃ => ?_) fun _ _ f => f.elim)
    rw [Sem.bind_eq_wrap', Sem.wrap_wrap]
    rw [Sem.wrap_congr (execs body env) _ _ (K' := forK target it body orelse env) (H' := forH env) (fun f => by cases f <;> rfl) (fun e => by
      show (do noteFrame e env; theTreesLotGoes e : Sem Unit).bind (fun _ => .raise e) = _
      rw [Sem.bind_eq_wrap])]
    exact h₃

/-- the end of a loop: the empty else block, then back -/
theorem seg_forEnd {target : Expr} {it : Value} {body : List Stmt} {k : Result → Sem Fin} {h : Option Value} {g : Bool} {l : List Value} {c₁ : Code} {p₁ : Pos} {kp : List Value}
    (hk : Seg (model prog w) A R Y n s₀ c₁ (k (.ok .next)) fs s) :
    Seg (model prog w) A R Y n s₀ (.forLoop target it body [] env) (.pure (.again (.block [] env))) (.ret k h g l c₁ p₁ kp :: fs) s := by
  refine seg_again rfl ?_
  show Seg _ A R Y n s₀ _ (leafOf (.ok .next)) _ s
  exact seg_leaf _ hk
end

/-! ## the room above a generator's frames -/
theorem AOk.over_func {A : Around} {k : Nat} {b : List Stmt} {env : Env} (x : AOk A (k + 2)) : AOk (A.over (.func b env) []) k := by
  refine ⟨x.hh, ?_, ?_⟩
  · show A.depth + frameCount [] + Code.weight (.func b env) + k ≤ 900
    have : Code.weight (.func b env) = 1 := rfl
    rw [this]; have := x.hd; simp only [frameCount, List.map_nil, List.sum_nil]; omega
  · show A.units + unitsOf [] + Code.cUnits (.func b env) + 10 * k ≤ 9000
    have : Code.cUnits (.func b env) = 3 := rfl
    rw [this]; have := x.hu; rw [unitsOf_nil]; omega
theorem AOk.over_for {A : Around} {k : Nat} {b body orelse : List Stmt} {env env' : Env} {target : Expr} {it : Value} {kk : Result → Sem Fin} {g : Bool} {l : List Value} {p : Pos} {kp : List Value} (x : AOk A (k + 2)) :
    AOk (A.over (.forLoop target it body orelse env') [.ret kk none g l (.func b env) p kp]) k := by
  refine ⟨x.hh, ?_, ?_⟩
  · show A.depth + frameCount [(.func b env, p)] + Code.weight (.forLoop target it body orelse env') + k ≤ 900
    have h1 : Code.weight (.forLoop target it body orelse env') = 0 := rfl
    have h2 : frameCount [(Code.func b env, p)] = 1 := rfl
    rw [h1, h2]; have := x.hd; omega
  · show A.units + unitsOf [(.func b env, p)] + Code.cUnits (.forLoop target it body orelse env') + 10 * k ≤ 9000
    have h1 : Code.cUnits (.forLoop target it body orelse env') = 0 := rfl
    have h2 : unitsOf [(Code.func b env, p)] = 3 := rfl
    rw [h1, h2]; have := x.hu; omega
end Mine
end
section
open PySem PySem.W PySem.Calls PyProof.Rows
set_option maxRecDepth 100000
set_option linter.unusedVariables false
set_option linter.unusedSimpArgs false
namespace Mine

/-! ## _iter_escaped_chars: what it yields -/
noncomputable def escItems (esc : Bool) (i : Nat) : List Nat → List (Nat × List Nat)
  | [] => if esc then [(i - 1, [92])] else []
  | c :: cs => if esc then (i, [92, c]) :: escItems false (i + 1) cs else if c = 92 then escItems true (i + 1) cs else (i, [c]) :: escItems false (i + 1) cs

/-- nothing but a heap that is not there: a frame's beginning for a generator -/
noncomputable def dm (s : Shared) : Shared := { s with heap := {} }
theorem empty_get (a : Addr) : ({} : Heap).get? a = none := by
  rfl
theorem Fm.dm {R : Heap} {X : List Addr} {L : Addr} {m : Str → Option Value} {s : Shared} (hn : s.heap.Ns L m) (hR : Sub R s.heap) (ho : ∀ x ∈ L :: X, R.get? x = none) : Fm (dm s) R X L m s :=
  ⟨⟨fun b o e => (by rw [show (Mine.dm s).heap = {} from rfl, empty_get] at e; cases e), rfl, fun _ _ e => e, id⟩, hn, hR, fun x hx => ⟨ho x hx, empty_get x⟩⟩

noncomputable def ownOut (H : Heap) (own : List Addr) : Prop := ∀ b ∈ own, H.get? b = none
structure Seen (own : List Addr) (s₀ s : Shared) : Prop where
  kb : KB own s₀.heap s.heap
  gens : s.gens = s₀.gens
  os : s.os = s₀.os
theorem Seen.refl (own : List Addr) (s : Shared) : Seen own s s := ⟨KB.refl _ _, rfl, rfl⟩

noncomputable def Yg (H R : Heap) (its : List (Nat × List Nat)) : Protocol := fun n s₀ v s' κ =>
  ∃ own, ownOut H own ∧ Seen own s₀ s' ∧ Sub R s'.heap ∧ (∃ T t u p, its[its.length - 1 - n]? = some p ∧ v = .ref T ∧ s'.heap.IsTuple T #[.int (p.1 : Int) t, .str ⟨p.2.toArray⟩ u]) ∧
    ∀ s'', (∀ b ∈ own, ∀ o, s'.heap.get? b = some o → s''.heap.get? b = some o) → Sub R s''.heap → κ (.send .none) s''
noncomputable def Pg (H R : Heap) : Nat → Shared → Shared → Prop := fun n s₀ s' => n = 0 ∧ ∃ own, ownOut H own ∧ Seen own s₀ s' ∧ Sub R s'.heap
noncomputable abbrev Rg (H R : Heap) : GenEnd := fun n s₀ r s' => r = .ok (.ret .none) ∧ Pg H R n s₀ s'

/-! ## its body -/
noncomputable abbrev g5 (C a : Addr) (cd : Value) : Env := envOf (fn 5).name (fn 5).scope C a cd
noncomputable def g5Tgt : Expr := match (fn 5).body.getD 2 (.Pass ⟨0, 0, 0, 0⟩) with | .For t _ _ _ _ => t | _ => .Tuple [] 0 ⟨0, 0, 0, 0⟩
noncomputable def g5Body : List Stmt := match (fn 5).body.getD 2 (.Pass ⟨0, 0, 0, 0⟩) with | .For _ _ b _ _ => b | _ => []

structure GI (R : Heap) (C e it : Addr) (esc : Bool) (i : Nat) (m : Str → Option Value) (s₀ s : Shared) : Prop where
  seen : Seen [C, e, it] s₀ s
  fm : Fm (dm s₀) R [e, it] C m s
  escV : m "escape" = some (.bool esc)
  posV : esc = true → ∃ t, m "pos" = some (.int ((i - 1 : Nat) : Int) t)


section
variable {prog : Program} {w : World} {A : Around} {H R : Heap} {chars : List Nat} {C a e it : Addr} {cd : Value} {its : List (Nat × List Nat)}

theorem Fm.seen {s₀ s s' : Shared} {X : List Addr} {L : Addr} {m m' : Str → Option Value} {own : List Addr} (hs : Seen own s₀ s) (F : Fm (Mine.dm s₀) R X L m s) (F' : Fm (Mine.dm s₀) R X L m' s') (M : Mv own s s') : Seen own s₀ s' :=
  ⟨hs.kb.trans M.kb, M.gens.trans hs.gens, F'.step.os⟩

theorem its_at {done rem : List (Nat × List Nat)} {p : Nat × List Nat} (h : its = done ++ p :: rem) : its[its.length - 1 - rem.length]? = some p := by
  subst h
  have : (done ++ p :: rem).length - 1 - rem.length = done.length := by simp only [List.length_append, List.length_cons]; omega
  rw [this]; simp

theorem yieldOut {m₂ : Str → Option Value} {s₀ s₂ : Shared} {tk : Nat} {t u : Tok} {p : Nat × List Nat} {rem : List (Nat × List Nat)} (hits : ∃ done, its = done ++ p :: rem) (hout : ownOut H [C, e, it])
    (hs : Seen [C, e, it] s₀ s₂) (F : Fm (Mine.dm s₀) R [e, it] C m₂ s₂) (kap : Resume → Shared → Prop)
    (hk : ∀ s'', Fm (Mine.dm s'') R [e, it] C m₂ s'' → (∀ b ∈ [e, it], ∀ o, s₂.heap.get? b = some o → s''.heap.get? b = some o) → kap (.send .none) s'') :
    Yg H R its rem.length s₀ (.ref s₂.heap.objs.size) { s₂ with heap := s₂.heap.push { cls := .type "tuple", data := .seq #[.int (p.1 : Int) t, .str ⟨p.2.toArray⟩ u] }, toks := tk } kap := by
  obtain ⟨done, hits⟩ := hits
  refine ⟨[C, e, it], hout, ⟨hs.kb.trans (KB.of_sub (sub_push _ _)), hs.gens, hs.os⟩, F.has.trans (sub_push _ _), ⟨_, t, u, p, its_at hits, rfl, ⟨_, Heap.get?_push_size _ rfl, rfl, _, rfl⟩⟩, fun s'' hs'' hR'' => ?_⟩
  refine hk s'' (Fm.dm (F.ns.at' fun o h => hs'' C (by simp) o (sub_push _ _ _ _ h)) hR'' fun x hx => (F.out x hx).1) fun b hb o h => hs'' b (List.mem_cons_of_mem _ hb) o (sub_push _ _ _ _ h)

noncomputable abbrev g5Ar (A : Around) (b : List Stmt) (kk : Result → Sem Fin) (l : List Value) (p : Pos) (C a e : Addr) (cd : Value) : Around :=
  A.over (.forLoop g5Tgt (.ref e) g5Body [] (g5 C a cd)) [.ret kk none false l (.func b (g5 C a cd)) p []]

theorem genLoop {b : List Stmt} {kk : Result → Sem Fin} {l : List Value} {p : Pos} {St : Nat → Heap → Prop} (hA : AOk A 6)
    (D : ∀ A : Around, A.handled = none → Draws prog w A it [it] chars.length (fun i v => ∃ c u, chars[i]? = some c ∧ v = .str ⟨#[c]⟩ u) St)
    (hSt : ∀ i h h', (∀ o, h.get? it = some o → h'.get? it = some o) → St i h → St i h')
    (hei : e ≠ it) (hCe : C ≠ e) (hCi : C ≠ it) (hout : ownOut H [C, e, it])
    (hend : ∀ esc m s₀ s, GI R C e it esc chars.length m s₀ s → (∃ done, its = done ++ escItems esc chars.length []) →
      Seg (model prog w) A (Rg H R) (Yg H R its) (escItems esc chars.length []).length s₀ (.func b (g5 C a cd)) (kk (.ok .next)) [] s) :
    ∀ (rest pre : List Nat) (esc : Bool) (m : Str → Option Value) (s₀ s : Shared), chars = pre ++ rest → (∃ done, its = done ++ escItems esc pre.length rest) → GI R C e it esc pre.length m s₀ s →
      ((∃ old, IsEnum s.heap e it (pre.length : Nat) old) ∧ St pre.length s.heap) →
      Seg (model prog w) A (Rg H R) (Yg H R its) (escItems esc pre.length rest).length s₀ (.forLoop g5Tgt (.ref e) g5Body [] (g5 C a cd)) ((model prog w).den (.forLoop g5Tgt (.ref e) g5Body [] (g5 C a cd)))
        [.ret kk none false l (.func b (g5 C a cd)) p []] s := by
  intro rest
  have hA' : AOk (g5Ar A b kk l p C a e cd) 4 := AOk.over_for hA
  have W := WalksT.enumerateD (A := g5Ar A b kk l p C a e cd) (D (Around.in1 (g5Ar A b kk l p C a e cd)) hA'.hh) e hei (by simpa using hei) (by simp)
  induction rest with
  | nil =>
    intro pre esc m s₀ s hc hits G hst
    rw [List.append_nil] at hc
    subst hc
    refine seg_forLoop (drawU (A := g5Ar A b kk l p C a e cd) (env := g5 C a cd) (L := C) (k := 0) (xs := [("pos", ⟨28, 8, 28, 11⟩), ("ch", ⟨28, 13, 28, 15⟩)]) (i := chars.length) (X := [e, it])
      W.toU hA'.hh G.fm hst (Nat.le_refl _) (by simp) (by simp [hCe, hCi]) (by simp [hCe, hCi])
      (by rintro i vals ⟨t, x, _, rfl⟩; rfl) (by simp only [List.mem_cons, List.not_mem_nil, or_false]; rintro x (rfl | rfl) <;> rfl) rfl rfl (fun hi s' F' M' => ?_) fun hi => absurd hi (Nat.lt_irrefl _))
    exact seg_forEnd (hend esc m s₀ s' ⟨Fm.seen G.seen G.fm F' (M'.mono (by simp)), F', G.escV, G.posV⟩ hits)
  | cons c rest ih =>
    intro pre esc m s₀ s hc hits G hst
    refine seg_forLoop (drawU (A := g5Ar A b kk l p C a e cd) (env := g5 C a cd) (L := C) (k := 0) (xs := [("pos", ⟨28, 8, 28, 11⟩), ("ch", ⟨28, 13, 28, 15⟩)]) (i := pre.length) (X := [e, it])
      W.toU hA'.hh G.fm hst (by rw [hc, List.length_append]; omega) (by simp) (by simp [hCe, hCi]) (by simp [hCe, hCi])
      (by rintro i vals ⟨t, x, _, rfl⟩; rfl) (by simp only [List.mem_cons, List.not_mem_nil, or_false]; rintro x (rfl | rfl) <;> rfl) rfl rfl
      (fun hi => by rw [hc, List.length_append, List.length_cons] at hi; omega) fun hi vals s₁ hP F₁ M₁ hst₁ => ?_)
    refine Classical.byContradiction fun hNo => ?_
    obtain ⟨t, x, ⟨c', u, hcc, rfl⟩, rfl⟩ := hP
    refine hNo ?_
    clear hNo
    have hcc : c' = c := by rw [hc] at hcc; simpa using hcc.symm
    subst hcc
    have S₁ : Seen [C, e, it] s₀ s₁ := Fm.seen G.seen G.fm F₁ (M₁.mono (by simp))
    have hlen : (pre ++ [c']).length = pre.length + 1 := by simp
    have back : ∀ (esc' : Bool) m' s₀' s', GI R C e it esc' (pre.length + 1) m' s₀' s' → ((∃ old, IsEnum s'.heap e it ((pre.length + 1 : Nat) : Nat) old) ∧ St (pre.length + 1) s'.heap) →
        (∃ done, its = done ++ escItems esc' (pre.length + 1) rest) →
        Seg (model prog w) A (Rg H R) (Yg H R its) (escItems esc' (pre.length + 1) rest).length s₀' (.forLoop g5Tgt (.ref e) g5Body [] (g5 C a cd)) (.pure (.again (.forLoop g5Tgt (.ref e) g5Body [] (g5 C a cd))))
          [.ret kk none false l (.func b (g5 C a cd)) p []] s' := fun esc' m' s₀' s' G' hst' hits' => by
      refine seg_again rfl ?_
      have := ih (pre ++ [c']) esc' m' s₀' s' (by rw [hc, List.append_assoc]; rfl)
      rw [hlen] at this
      exact this hits' G' hst'
    have stk : ∀ {sa sb : Shared}, (∀ b ∈ [e, it], ∀ o, sa.heap.get? b = some o → sb.heap.get? b = some o) → ((∃ old, IsEnum sa.heap e it ((pre.length + 1 : Nat) : Nat) old) ∧ St (pre.length + 1) sa.heap) → ((∃ old, IsEnum sb.heap e it ((pre.length + 1 : Nat) : Nat) old) ∧ St (pre.length + 1) sb.heap) :=
      fun hk h => ⟨h.1.imp fun old q => hk e (by simp) _ q, hSt _ _ _ (hk it (by simp)) h.2⟩
    refine seg_execs_cons (seg_If (isTrue_plain (nmL F₁ (v := .bool esc) (by exact G.escV) (wpAny_truthy_bool ?_))))
    cases esc with
    | true =>
      have he : escItems true pre.length (c' :: rest) = (pre.length, [92, c']) :: escItems false (pre.length + 1) rest := rfl
      rw [he] at hits ⊢
      refine seg_execs_cons (seg_Expr_Yield rfl rfl rfl (wpAny_mono (E := NoE) (Tuple_ (args_cons (nmL F₁ rfl (args_cons (wpAny_BinOp (wpAny_Constant_str (nmL F₁.tok rfl (PyProof.Rows.add_str fun t' tk => args_nil (wpAny_newTuple ?_))))))))) (fun _ _ q => q) fun _ _ f => f.elim))
      intro kap hkap
      refine yieldOut (s₂ := s₁) (t := t) (u := t') (p := (pre.length, [92, c'])) hits hout S₁ F₁ kap fun s'' F'' hk'' => hkap _ _ ?_
      refine seg_execs_cons (seg_stmt (wpAny_Assign_Name (wpAny_Constant_bool (stL F'' fun s₃ F₃ M₃ => ?_))))
      refine back false _ s'' s₃ ⟨Fm.seen (Seen.refl _ _) F'' F₃ (M₃.mono (by simp)), F₃, rfl, fun h => by cases h⟩ (stk (fun b hb o h => M₃.kb b o ?_ (hk'' b hb o h)) hst₁) ?_
      · simp only [List.mem_cons, List.not_mem_nil, or_false] at hb ⊢; rcases hb with rfl | rfl <;> rintro rfl <;> contradiction
      · obtain ⟨done, hd⟩ := hits; exact ⟨done ++ [(pre.length, [92, c'])], by rw [hd]; simp⟩
    | false =>
      refine seg_execs_cons (seg_If (wpAny_isTrue_Compare1 (nmL F₁ rfl (wpAny_Constant_str (PySem.P.eq_str (wpAny_truthy_bool ?_))))))
      have hq : ((({ cps := #[c'] } : Str).cps.toList == (("\\" : Str)).cps.toList) : Bool) = decide (c' = 92) := by
        show ([c'] == [92]) = _
        by_cases h : c' = 92 <;> simp [h]
      rw [hq]
      by_cases h92 : c' = 92
      · simp only [h92, decide_true, if_true]
        subst h92
        have he : escItems false pre.length (92 :: rest) = escItems true (pre.length + 1) rest := rfl
        rw [he] at hits ⊢
        refine seg_execs_cons (seg_stmt (wpAny_Assign_Name (wpAny_Constant_bool (stL F₁.tok fun s₃ F₃ M₃ => ?_))))
        refine back true _ s₀ s₃ ⟨Fm.seen S₁ F₁ F₃ ⟨(M₃.kb.mono (by simp)), M₃.gens⟩, F₃, rfl, fun _ => ⟨t, rfl⟩⟩ (stk (fun b hb o h => M₃.kb b o ?_ h) hst₁) hits
        simp only [List.mem_cons, List.not_mem_nil, or_false] at hb ⊢; rcases hb with rfl | rfl <;> rintro rfl <;> contradiction
      · simp only [h92, decide_false, Bool.false_eq_true, if_false]
        have he : escItems false pre.length (c' :: rest) = (pre.length, [c']) :: escItems false (pre.length + 1) rest := by
          show (if c' = 92 then _ else _) = _
          rw [if_neg h92]
        rw [he] at hits ⊢
        have F₂ := F₁.tok (tk := s₁.toks + 1)
        refine seg_execs_cons (seg_Expr_Yield rfl rfl rfl (wpAny_mono (E := NoE) (Tuple_ (args_cons (nmL F₂ rfl (args_cons (nmL F₂ rfl (args_nil (wpAny_newTuple ?_))))))) (fun _ _ q => q) fun _ _ f => f.elim))
        intro kap hkap
        refine yieldOut (s₂ := s₁) (t := t) (u := u) (p := (pre.length, [c'])) hits hout S₁ F₁ kap fun s'' F'' hk'' => hkap _ _ ?_
        refine back false _ s'' s'' ⟨Seen.refl _ _, F'', G.escV, fun h => by cases h⟩ (stk hk'' hst₁) ?_
        obtain ⟨done, hd⟩ := hits; exact ⟨done ++ [(pre.length, [c'])], by rw [hd]; simp⟩
end
end Mine
end
section
open PySem PySem.W PySem.Calls PyProof.Rows
set_option maxRecDepth 100000
set_option linter.unusedVariables false
set_option linter.unusedSimpArgs false
namespace Mine

theorem strDraws {prog : Program} {w : World} {A : Around} (hh : A.handled = none) (it : Addr) (x : Str) (t : Tok) :
    Draws prog w A it [it] x.cps.toList.length (fun i v => ∃ c u, x.cps.toList[i]? = some c ∧ v = .str ⟨#[c]⟩ u) (fun i h => h.IsStrIter it (strIterType x) x t i) := by
  unfold strIterType
  have hl : x.cps.toList.length = x.cps.size := rfl
  have hg : ∀ i, x.cps.toList[i]? = x.cps[i]? := fun i => Array.getElem?_toList
  rw [hl]
  simp only [hg]
  by_cases h : x.cps.all (· < 128) = true
  · rw [if_pos h]; exact Draws.strAscii hh it x t
  · rw [if_neg h]; exact Draws.strWide hh it x t

section
variable {prog : Program} {w : World} {A : Around} {H R : Heap} {C a : Addr} {cd : Value} {mg mb : Str → Option Value}

theorem strIter_stable {x : Str} {tx : Tok} {it : Addr} (i : Nat) (h h' : Heap) (k : ∀ o, h.get? it = some o → h'.get? it = some o) (y : h.IsStrIter it (strIterType x) x tx i) : h'.IsStrIter it (strIterType x) x tx i := by
  obtain ⟨o, ho, r⟩ := y; exact ⟨o, k o ho, r⟩

/-- the generator's start -/
theorem genStart {x : Str} {tx : Tok} (hA : AOk A 8) (G : GE prog w mg mb R) {s : Shared} (hC : H.get? C = none) (hR : Sub R s.heap) (hRC : R.get? C = none)
    (hns : s.heap.Ns C (fun y => [(("addr" : Str), Value.str x tx)].reverse.lookup y)) (hdom : ∀ b, (H.get? b).isSome = true → (s.heap.get? b).isSome = true) :
    Seg (model prog w) A (Rg H R) (Yg H R (escItems false 0 x.cps.toList)) (escItems false 0 x.cps.toList).length s (.func (fn 5).body (g5 C a cd)) ((model prog w).den (.func (fn 5).body (g5 C a cd))) [] s := by
  have F₀ : Fm (Mine.dm s) R [] C _ s := Fm.dm hns hR (by simpa using hRC)
  have hA1 : AOk (A.over (.func (fn 5).body (g5 C a cd)) []) 6 := hA.over_func
  refine seg_func ?_
  refine seg_execs_cons (seg_stmt (wpAny_Assign_Name (wpAny_Constant_int (stL F₀.tok fun s₁ F₁ M₁ => ?_))))
  refine seg_execs_cons (seg_stmt (wpAny_Assign_Name (wpAny_Constant_bool (stL F₁ fun s₂ F₂ M₂ => ?_))))
  have S₂ : Seen [C] s s₂ := Fm.seen (Fm.seen (Seen.refl [C] s) F₀ F₁ ⟨M₁.kb, M₁.gens⟩) F₁ F₂ M₂
  have hdom₂ : ∀ b, (H.get? b).isSome = true → (s₂.heap.get? b).isSome = true := fun b hb => by
    obtain ⟨o, ho⟩ := Option.isSome_iff_exists.mp (hdom b hb)
    rw [S₂.kb b o (by simp; rintro rfl; rw [hC] at hb; cases hb) ho]; rfl
  have hnone : ∀ b, s₂.heap.get? b = none → H.get? b = none := fun b hb => by
    cases e : H.get? b with
    | none => rfl
    | some o => have := hdom₂ b (by rw [e]; rfl); rw [hb] at this; cases this
  refine seg_execs_cons (seg_For (Call_ (nmB F₂ G.g G.b G.enu.1 G.enu.2 (PyProof.Rows.callWith_type1 (args_cons (nmL F₂ rfl (args_nil ?_)))))))
  refine call_enumerate_str fun h' hE hI hz hk => ?_
  have F₃ := (F₂.keep (h' := h') (tk := s₂.toks) hk)
  have hCl := F₂.lt
  refine wpAny_pyIter_enum hE ?_
  intro p
  have hout : ownOut H [C, s₂.heap.objs.size + 1, s₂.heap.objs.size] := by
    intro b hb
    simp only [List.mem_cons, List.not_mem_nil, or_false] at hb
    rcases hb with rfl | rfl | rfl
    · exact hC
    · exact hnone _ (get_ge_none (Nat.le_succ _))
    · exact hnone _ (get_size_none _)
  have F₄ : Fm (Mine.dm s) R [s₂.heap.objs.size + 1, s₂.heap.objs.size] C _ { s₂ with heap := h', toks := s₂.toks } :=
    ⟨F₃.step, F₃.ns, F₃.has, fun y hy => by
      refine ⟨?_, empty_get y⟩
      simp only [List.mem_cons, List.not_mem_nil, or_false] at hy
      rcases hy with rfl | rfl | rfl
      · exact hRC
      · exact (F₂.none_of (get_ge_none (Nat.le_succ _))).1
      · exact (F₂.none_of (get_size_none _)).1⟩
  refine genLoop (A := A) (e := s₂.heap.objs.size + 1) (it := s₂.heap.objs.size) (chars := x.cps.toList) (its := escItems false 0 x.cps.toList) (St := fun i h => h.IsStrIter s₂.heap.objs.size (strIterType x) x tx i) (hA.le (by omega)) (fun A' hh => strDraws hh _ x tx) strIter_stable (Nat.succ_ne_self _) (Nat.ne_of_lt (Nat.lt_succ_of_lt hCl)) (Nat.ne_of_lt hCl) hout ?_ x.cps.toList [] false _ s _ rfl ⟨[], rfl⟩
    ⟨⟨S₂.kb.mono (by simp) |>.trans (KB.of_sub hk), S₂.gens, S₂.os⟩, F₄, rfl, fun h => by cases h⟩ ⟨⟨.none, hE⟩, hI⟩
  -- the end
  intro esc m s₀ s₅ GG hits
  have hfin : ∀ s₆, Seen [C, s₂.heap.objs.size + 1, s₂.heap.objs.size] s₀ s₆ → Sub R s₆.heap →
      Seg (model prog w) A (Rg H R) (Yg H R (escItems false 0 x.cps.toList)) 0 s₀ (.func (fn 5).body (g5 C a cd)) (.pure (.done (.ret .none))) [] s₆ :=
    fun s₆ hs hr => seg_end (r := .ok (.ret .none)) ⟨rfl, rfl, _, hout, hs, hr⟩
  refine seg_execs_cons (seg_If (isTrue_plain (nmL GG.fm (v := .bool esc) (by exact GG.escV) (wpAny_truthy_bool ?_))))
  cases esc with
  | false => exact seg_execs_nil (seg_execs_nil (hfin s₅ GG.seen GG.fm.has))
  | true =>
    obtain ⟨t, hpos⟩ := GG.posV rfl
    have he : escItems true x.cps.toList.length [] = [(x.cps.toList.length - 1, [92])] := rfl
    rw [he] at hits ⊢
    refine seg_execs_cons (seg_Expr_Yield rfl rfl rfl (wpAny_mono (E := NoE) (Tuple_ (args_cons (nmL GG.fm hpos (args_cons (wpAny_Constant_str (args_nil (wpAny_newTuple ?_))))))) (fun _ _ q => q) fun _ _ f => f.elim))
    intro kap hkap
    refine yieldOut (rem := []) (s₂ := s₅) (t := t) (u := s₅.toks) (p := (x.cps.toList.length - 1, [92])) hits hout GG.seen GG.fm kap fun s'' F'' hk'' => hkap _ _ ?_
    exact seg_execs_nil (seg_execs_nil (seg_end (r := .ok (.ret .none)) ⟨rfl, rfl, _, hout, Seen.refl _ _, F''.has⟩))
end
end Mine
end
section
open PySem PySem.W PySem.Calls PyProof.Rows
set_option maxRecDepth 100000
set_option linter.unusedVariables false
set_option linter.unusedSimpArgs false
namespace Mine

section
variable {prog : Program} {w : World} {A : Around} {mg mb : Str → Option Value}

/-- what calling _iter_escaped_chars leaves behind -/
structure GenNew (prog : Program) (w : World) (x : Str) (tx : Tok) (b C g : Addr) (s s' : Shared) : Prop where
  step : Step s s'
  isg : s'.heap.IsGen b g
  fresh : s.heap.get? b = none ∧ s.heap.get? C = none ∧ b ≠ C ∧ s.gens.size = g
  ns : s'.heap.Ns C (fun y => [(("addr" : Str), Value.str x tx)].reverse.lookup y)
  gen : ∃ a cd, s'.gens[g]? = some (.fresh (.func (fn 5).body (g5 C a cd)))

theorem gens_push {s : Shared} {x : GenState} : ∀ (i : Nat) y, s.gens[i]? = some y → (s.gens.push x)[i]? = some y := fun i y e => by
  have hi : i < s.gens.size := by
    rcases Nat.lt_or_ge i s.gens.size with h | h
    · exact h
    · rw [Array.getElem?_eq_none h] at e; cases e
  rw [Array.getElem?_push, if_neg (Nat.ne_of_lt hi)]; exact e

theorem iter_spec {s : Shared} {R : Heap} (G : GE prog w mg mb R) (hA : AOk A 2) (hR : Sub R s.heap) (a : Addr) (ha : mg "_iter_escaped_chars" = some (.ref a)) {x : Str} {tx : Tok} :
    wpAny (model prog w) A (call (.ref a) [.str x tx]) (fun v s' => ∃ b C g, v = .ref b ∧ GenNew prog w x tx b C g s s') NoE s := by
  refine Classical.byContradiction fun hNo => ?_
  obtain ⟨a', o, pm, cd, doc, h1, h2, h3, h4⟩ := G.fns 5 (by simp)
  refine hNo ?_
  clear hNo
  rw [show (fn 5).name = ("_iter_escaped_chars" : Str) from rfl, ha] at h1
  cases h1
  refine wpAny_call (codeAny_call_generator (body := (fn 5).body) hA.room (hR _ _ h2) h3 rfl rfl rfl (h4.keeps hR) ?_)
  show wpAny _ _ (pure [(("addr" : Str), Value.str x tx)]) _ _ _
  refine wpAny_pure (wpAny_newFunctionEnv (scope := (fn 5).scope) (by decide +kernel) (locs (by rfl)) (fun h₁ hns hsb => ⟨(G.lim.keeps hR).fresh _ hsb, ?_⟩) rfl)
  have k₁ : Sub s.heap h₁ := fun b o e => hsb.extBut b o (Nat.ne_of_lt (Heap.lt_size e)) (Heap.get?_push_of_some _ e)
  have hz : h₁.objs.size = s.heap.objs.size + 1 := by rw [hsb.1, Heap.size_push]
  refine ⟨_, _, _, rfl, ⟨k₁.trans (sub_push _ _), rfl, gens_push, fun h => h.push rfl⟩, ⟨_, _, _, Heap.get?_push_size _ rfl, rfl, rfl, rfl⟩, ⟨get_ge_none ?_, get_size_none _, ?_, rfl⟩, hns.keeps (sub_push _ _), a, cd, Array.getElem?_push_size ..⟩
  · show s.heap.objs.size ≤ h₁.objs.size
    rw [hz]; exact Nat.le_succ _
  · show h₁.objs.size ≠ s.heap.objs.size
    rw [hz]; exact Nat.succ_ne_self _

/-! ## waking it -/
theorem wakeQ {a : Addr} {g n : Nat} {gs : GenState} {P : Nat → Shared → Shared → Prop} {Y : Protocol} {E : Value → Shared → Prop} {s : Shared} {Q : Option Value → Shared → Prop} (hA : AOk A 1) (hl : s.heap.NoLimit)
    (hg : s.heap.IsGen a g) (hgs : s.gens[g]? = some gs)
    (hgo : gs.Goes (model prog w) A.in1 (fun n s₀ r s₁ => r = .ok (.ret .none) ∧ P n s₀ s₁) Y n (.send .none) (s.setGen g .running))
    (hY : ∀ v s₁ gs', gs'.bare = true → Y (n - 1) (s.setGen g .running) v s₁ (fun r' s'' => match n with
        | 0 => False
        | m + 1 => gs'.Goes (model prog w) A.in1 (fun n s₀ r s₁ => r = .ok (.ret .none) ∧ P n s₀ s₁) Y m r' s'') → Q (some v) (s₁.setGen g gs'))
    (hP : ∀ s₁, P n (s.setGen g .running) s₁ → ∀ h', Sub s₁.heap h' → Q none { s₁.setGen g .finished with heap := h' }) :
    wpAny (model prog w) A (pyNext (.ref a)) Q E s := by
  unfold pyNext
  refine wpAny_bind (wpAny_attempt (wpAny_callSpecial?_slot (name := Str.ofString "__next__") hg.typeIs slot_gen_next
    (wpAny_call_entry slot_gen_next hg.typeIs entry_gen_next ?_ (args_gen_next _))))
  show wpAny _ A.in1 (Builtin.Generator.genWake (.ref a) (.send .none)) _ _ s
  unfold Builtin.Generator.genWake
  refine wpAny_bind (wpAny_holding (wpAny_genNumber hg (wpAny_bind (wpAny_genState hgs ?_))))
  cases gs with
  | running => exact hgo.elim
  | finished => exact hgo.elim
  | _ =>
    refine wpAny_bind (wpAny_roomToWake hl hA.room ?_)
    show wpAny _ A.in1 (.resume g (.send .none) [] _) _ _ s
    refine wpAny_resumeQ hgs hgo (fun x s₁ hx => ?_) (fun v s₁ gs' hb hv => wpAny_pure ⟨v, rfl, wpAny_pure (hY v s₁ gs' hb hv)⟩)
    obtain ⟨rfl, hp⟩ := hx
    show wpAny _ A.in1 (newExc (.type "StopIteration") [] >>= _) _ _ _
    refine wpAny_bind ?_
    simp only [newExc, newTuple]
    refine wpAny_bind (wpAny_newObj_type ?_ (by size_fits))
    refine wpAny_bind (m := firstArgMember _ _) (wpAny_of_eq (a := Value.none) (by first | rfl | (simp only [firstArgMember]; rfl)) ?_)
    refine wpAny_newObj_type ?_ (by size_fits)
    simp only [raiseNew]
    refine wpAny_bind (wpAny_bind (wpAny_handled ?_))
    rw [show A.handled = none from hA.hh]
    refine wpAny_throw (wpAny_bind (wpAny_isInstance (T := "StopIteration") (b := true) ?_ isSubtype_stop ?_))
    · exact ⟨_, Heap.get?_push_size _ rfl, rfl⟩
    · exact wpAny_pure (hP s₁ hp _ fun b o hb => Heap.get?_push_of_some _ (Heap.get?_push_of_some _ hb))

/-- a generator that has still to tell its, from the k-th on; H: what it leaves alone -/
structure GenAt (prog : Program) (w : World) (A : Around) (a : Addr) (g : Nat) (H R : Heap) (its : List (Nat × List Nat)) (k : Nat) (s : Shared) : Prop where
  isg : s.heap.IsGen a g
  dom : ∀ b, (H.get? b).isSome = true → (s.heap.get? b).isSome = true
  st : ∃ gs own, s.gens[g]? = some gs ∧ ownOut H own ∧ ∀ s'' : Shared, (∀ b ∈ own, ∀ o, s.heap.get? b = some o → s''.heap.get? b = some o) →
    (∀ b, (H.get? b).isSome = true → (s''.heap.get? b).isSome = true) → Sub R s''.heap → gs.Goes (model prog w) A.in1 (Rg H R) (Yg H R its) (its.length - k) (.send .none) s''

theorem GenAt.move {a : Addr} {g k : Nat} {H R : Heap} {its : List (Nat × List Nat)} {s s' : Shared} {Y : List Addr} (x : GenAt prog w A a g H R its k s) (hk : KB Y s.heap s'.heap) (hg : s'.gens = s.gens)
    (hY : ∀ y ∈ Y, (H.get? y).isSome = true ∧ (s'.heap.get? y).isSome = true) (ha : a ∉ Y) : GenAt prog w A a g H R its k s' := by
  refine Classical.byContradiction fun hNo => ?_
  obtain ⟨⟨o, nm, qn, ho, r⟩, hd, gs, own, h1, h2, h3⟩ := x
  refine hNo ?_
  clear hNo
  refine ⟨⟨o, nm, qn, hk _ _ ha ho, r⟩, fun b hb => ?_, gs, own, hg ▸ h1, h2, fun s'' hs'' => h3 s'' fun b hb o ho => hs'' b hb o (hk b o (fun hy => ?_) ho)⟩
  · by_cases hy : b ∈ Y
    · exact (hY b hy).2
    · obtain ⟨o, ho⟩ := Option.isSome_iff_exists.mp (hd b hb)
      rw [hk b o hy ho]; rfl
  · have := (hY b hy).1; rw [h2 b hb] at this; cases this

/-- the fresh one, about to be walked: H is all but its own frame -/
theorem GenNew.at {R : Heap} (G : GE prog w mg mb R) (hA : AOk A 9) {x : Str} {tx : Tok} {b C g : Addr} {s s₁ s₂ : Shared} (N : GenNew prog w x tx b C g s s₁) (hR : R.get? C = none) (hk : Sub s₁.heap s₂.heap)
    (hg : s₁.gens = s₂.gens) : GenAt prog w A b g (only (fun c => c != C) s₂.heap) R (escItems false 0 x.cps.toList) 0 s₂ := by
  refine Classical.byContradiction fun hNo => ?_
  obtain ⟨a, cd, hgen⟩ := N.gen
  refine hNo ?_
  clear hNo
  have hC : (only (fun c => c != C) s₂.heap).get? C = none := by rw [only_get]; simp
  refine ⟨N.isg.keeps hk, fun c hc => ?_, .fresh (.func (fn 5).body (g5 C a cd)), [C], hg ▸ hgen, by simpa [ownOut] using hC, fun s'' hs'' hd hr => ⟨rfl, ?_⟩⟩
  · rw [only_get] at hc
    split at hc
    · exact hc
    · cases hc
  · rw [Nat.sub_zero]
    exact genStart hA.in1 G hC hr hR (N.ns.at' fun o e => hs'' C (by simp) o (hk _ _ e)) hd

theorem letGo_gen {s : Shared} {a : Addr} {g : Nat} {target : Expr} {v : Value} {Q : Unit → Shared → Prop} {E : Value → Shared → Prop} (hg : s.heap.IsGen a g) (h : Q () s) : wpAny (model prog w) A (letOwnedTupleGo target (.ref a) v) Q E s := by
  refine Classical.byContradiction fun hNo => ?_
  obtain ⟨o, nm, qn, ho, hc, hd, _⟩ := hg
  refine hNo ?_
  clear hNo
  unfold letOwnedTupleGo
  split
  all_goals first
    | exact wpAny_pure h
    | (cases v <;> first
        | exact wpAny_pure h
        | (refine wpAny_bind (wpAny_load ho ?_)
           rw [hc, hd]
           exact wpAny_pure h))

theorem Fm.gen {s₀ s s' : Shared} {R H : Heap} {X : List Addr} {L : Addr} {m : Str → Option Value} {own : List Addr} {g : Nat} (F : Fm s₀ R X L m s) (hk : KB own s.heap s'.heap) (hr : Sub R s'.heap) (ho : s'.os = s.os)
    (hg : GenOnlyQ g s.gens s'.gens) (hown : ownOut H own) (hL : (H.get? L).isSome = true) (h0 : ∀ b, (s₀.heap.get? b).isSome = true → (H.get? b).isSome = true) (hg0 : s₀.gens.size ≤ g) : Fm s₀ R X L m s' := by
  have out : ∀ b, (H.get? b).isSome = true → b ∉ own := fun b hb hm => by rw [hown b hm] at hb; cases hb
  refine ⟨⟨fun b o e => hk b o (out b (h0 b (by rw [e]; rfl))) (F.step.sub b o e), ho.trans F.step.os, fun i y e => ?_, fun h => hg.bare (F.step.bare h)⟩, F.ns.at' fun o e => hk L o (out L hL) e, hr, F.out⟩
  have hi : i < s₀.gens.size := by
    rcases Nat.lt_or_ge i s₀.gens.size with h | h
    · exact h
    · rw [Array.getElem?_eq_none h] at e; cases e
  have e₁ := F.step.gens i y e
  rcases hg with hg | hg
  · rw [hg]; exact e₁
  · rw [hg.1.2 i (by omega)]; exact e₁

theorem drawG {H R : Heap} {s₀ s : Shared} {X : List Addr} {L a : Addr} {m : Str → Option Value} {env : Env} {g k : Nat} {its : List (Nat × List Nat)} {N S : Shared → Prop} {x1 x2 : Str} {p1 p2 pos : Pos} {kk : Nat}
    (hA : AOk A 2) (hlim : R.NoLimit) (F : Fm s₀ R X L m s) (GA : GenAt prog w A a g H R its k s) (hk : k ≤ its.length)
    (hHa : (H.get? a).isSome = true) (hHL : (H.get? L).isSome = true) (haL : a ≠ L) (h0 : ∀ b, (s₀.heap.get? b).isSome = true → (H.get? b).isSome = true) (hg0 : s₀.gens.size ≤ g)
    (hl1 : env.kindOf x1 = some .local) (hl2 : env.kindOf x2 = some .local) (hkind : env.scope.kind = .function) (hL : env.locals = L)
    (hN : k = its.length → ∀ s', Fm s₀ R X L m s' → (∀ b, (H.get? b).isSome = true → ∀ o, s.heap.get? b = some o → s'.heap.get? b = some o) → N s')
    (hS : ∀ p, its[k]? = some p → ∀ t u s', Fm s₀ R X L (fun y => if y = x2 then some (.str ⟨p.2.toArray⟩ u) else if y = x1 then some (.int (p.1 : Int) t) else m y) s' →
      (∀ b, b ≠ L → (H.get? b).isSome = true → ∀ o, s.heap.get? b = some o → s'.heap.get? b = some o) → GenAt prog w A a g H R its (k + 1) s' → S s') :
    wpAny (model prog w) A (pyNext (.ref a)) (fun r s₁ => match r with
      | none => N s₁
      | some v => wpAny (model prog w) A (letOwnedTupleGo (.Tuple [.Name x1 p1, .Name x2 p2] kk pos) (.ref a) v) (fun _ s₁' => wpAny (model prog w) A (assign (.Tuple [.Name x1 p1, .Name x2 p2] kk pos) env v) (fun _ s₂ => S s₂) NoE s₁') NoE s₁) NoE s := by
  refine Classical.byContradiction fun hNo => ?_
  obtain ⟨isg, dom, gs, own, hgs, hown, hgo⟩ := GA
  refine hNo ?_
  clear hNo
  have hself : (s.setGen g .running).gens[g]? = some .running := setGen_self hgs
  refine wakeQ (P := Pg H R) (hA.le (by omega)) (hlim.keeps F.has) isg hgs (hgo (s.setGen g .running) (fun _ _ _ e => e) dom F.has) (fun v s₁ gs' hb hv => ?_) (fun s₁ hp h' hk' => ?_)
  · obtain ⟨own', hown', hseen, hR', ⟨T, t, u, p, hp, rfl, hT⟩, hkap⟩ := hv
    obtain ⟨mm, hmm⟩ : ∃ mm, its.length - k = mm + 1 := ⟨its.length - k - 1, by
      rcases Nat.lt_or_ge k its.length with h | h
      · omega
      · exfalso
        have : its.length - k = 0 := by omega
        rw [this] at hkap
        exact hkap s₁ (fun _ _ _ e => e) hR'⟩
    rw [hmm] at hp hkap
    have hidx : its.length - 1 - (mm + 1 - 1) = k := by omega
    rw [hidx] at hp
    have out : ∀ b, (H.get? b).isSome = true → b ∉ own' := fun b hb hm => by rw [hown' b hm] at hb; cases hb
    have hk₁ : KB own' s.heap s₁.heap := hseen.kb
    have hgen : GenOnlyQ g s.gens (s₁.setGen g gs').gens := by
      refine GenOnlyQ.of (y := gs') ?_ (setGen_self (gs := .running) (hseen.gens ▸ hself)) hb
      refine GenOnly.trans ?_ (GenOnly.setGen s₁ g gs')
      rw [hseen.gens]; exact GenOnly.setGen s g .running
    have F₁ : Fm s₀ R X L m (s₁.setGen g gs') := F.gen (H := H) hk₁ hR' hseen.os hgen hown' hHL h0 hg0
    have isg₁ : (s₁.setGen g gs').heap.IsGen a g := let ⟨o, nm, qn, ho, r⟩ := isg; ⟨o, nm, qn, hk₁ _ _ (out a hHa) ho, r⟩
    have GA₁ : GenAt prog w A a g H R its (k + 1) (s₁.setGen g gs') := by
      refine ⟨isg₁, fun b hb => ?_, gs', own', setGen_self (gs := .running) (hseen.gens ▸ hself), hown', fun s'' hs'' _ hr => ?_⟩
      · obtain ⟨o, ho⟩ := Option.isSome_iff_exists.mp (dom b hb)
        show (s₁.heap.get? b).isSome = true
        rw [hk₁ b o (out b hb) ho]; rfl
      · have e : its.length - (k + 1) = mm := by omega
        rw [e]
        exact hkap s'' hs'' hr
    refine letGo_gen isg₁ ?_
    refine assignTup (k := kk) (xs := [(x1, p1), (x2, p2)]) hA.hh F₁ hT rfl (by simp only [List.mem_cons, List.not_mem_nil, or_false]; rintro x (rfl | rfl) <;> assumption) hkind hL fun s₂ F₂ M₂ => ?_
    refine hS p hp t u s₂ F₂ (fun b hbL hbH o ho => M₂.kb b o (by simpa using hbL) (hk₁ b o (out b hbH) ho)) (GA₁.move M₂.kb M₂.gens (fun y hy => ?_) (by simpa using haL))
    obtain rfl := List.mem_singleton.mp hy
    refine ⟨hHL, ?_⟩
    obtain ⟨o, _, _, ho, _⟩ := F₂.ns; rw [ho]; rfl
  · obtain ⟨h0n, own', hown', hseen, hR'⟩ := hp
    have hke : k = its.length := by omega
    have out : ∀ b, (H.get? b).isSome = true → b ∉ own' := fun b hb hm => by rw [hown' b hm] at hb; cases hb
    have hk₁ : KB own' s.heap h' := fun b o hb e => hk' b o (hseen.kb b o hb e)
    have hgen : GenOnlyQ g s.gens (s₁.setGen g .finished).gens := by
      refine GenOnlyQ.of (y := .finished) ?_ (setGen_self (gs := .running) (hseen.gens ▸ hself)) rfl
      refine GenOnly.trans ?_ (GenOnly.setGen s₁ g .finished)
      rw [hseen.gens]; exact GenOnly.setGen s g .running
    exact hN hke _ (F.gen (H := H) (own := own') (s' := { s₁.setGen g .finished with heap := h' }) hk₁ (fun b o e => hk' b o (hR' b o e)) hseen.os hgen hown' hHL h0 hg0) fun b hb o ho => hk₁ b o (out b hb) ho
end
end Mine
end
section
open PySem PySem.W PySem.Calls PyProof.Rows
set_option maxRecDepth 100000
set_option linter.unusedVariables false
set_option linter.unusedSimpArgs false
namespace Mine

section
variable {prog : Program} {w : World} {A : Around} {mg mb : Str → Option Value} {s₀ s : Shared} {R : Heap} {X : List Addr} {L : Addr} {m : Str → Option Value} {env : Env}

/-- for pos, ch in _iter_escaped_chars(e): .. -/
theorem forGen {x1 x2 : Str} {p1 p2 tpos cpos pos np : Pos} {kk : Nat} {e : Expr} {body : List Stmt} {x : Str} {tx : Tok} {Q : Flow → Shared → Prop} {J : Nat → (Str → Option Value) → Shared → Prop}
    (hA : AOk A 9) (G : GE prog w mg mb R) (F : Fm s₀ R X L m s) (hX : ∀ y ∈ X, (s.heap.get? y).isSome = true) (hLX : L ∉ X)
    (he : ∀ Q' : Value → Shared → Prop, Q' (.str x tx) s → wpAny (model prog w) A (eval e env) Q' NoE s)
    (hst : starEach [e] env = [(false, eval e env)])
    (hl1 : env.kindOf x1 = some .local) (hl2 : env.kindOf x2 = some .local) (hkind : env.scope.kind = .function) (hL : env.locals = L)
    (hg : env.kindOf "_iter_escaped_chars" = some .globalImplicit) (hG : env.globals = mainGlobals)
    (h0 : J 0 m s) (hJ : ∀ k m s s', J k m s → (∀ y ∈ X, ∀ o, s.heap.get? y = some o → s'.heap.get? y = some o) → J k m s')
    (step : ∀ k p m₁ s₁ t u, (escItems false 0 x.cps.toList)[k]? = some p → J k m₁ s₁ →
      Fm s₀ R X L (fun y => if y = x2 then some (.str ⟨p.2.toArray⟩ u) else if y = x1 then some (.int (p.1 : Int) t) else m₁ y) s₁ → (∀ y ∈ X, (s₁.heap.get? y).isSome = true) →
      wpAny (model prog w) A (execs body env) (fun f s₂ => match f with
        | .next | .cont => ∃ m₂, Fm s₀ R X L m₂ s₂ ∧ J (k + 1) m₂ s₂ ∧ Mv (L :: X) s₁ s₂ ∧ ∀ y ∈ X, (s₂.heap.get? y).isSome = true
        | .brk => Q .next s₂
        | .ret v => Q (.ret v) s₂) NoE s₁)
    (done : ∀ m₁ s₁, Fm s₀ R X L m₁ s₁ → J (escItems false 0 x.cps.toList).length m₁ s₁ → Q .next s₁)
    (hs : ∀ v, foldedSetIterable (.Call (.Name "_iter_escaped_chars" np) [e] [] cpos) env v = pure v := by intro _; rfl) :
    wpAny (model prog w) A (exec (.For (.Tuple [.Name x1 p1, .Name x2 p2] kk tpos) (.Call (.Name "_iter_escaped_chars" np) [e] [] cpos) body [] pos) env) Q NoE s := by
  refine wpFor (callF F G.g (G.fns 5 (by simp)) rfl (?_ : wpAny (model prog w) A (spliced (backTo cpos (starEach [e] env))) _ NoE s) (hst.trans rfl) hg hkind hG) hs
  refine args_cons (he _ (args_nil ⟨F.has, fun a ha => ?_⟩)) (hst.trans rfl)
  refine wpAny_mono (iter_spec G (hA.le (by omega)) F.has a ha) (fun v s₁ h₁ => ?_) fun _ _ q => q
  refine Classical.byContradiction fun hNo => ?_
  obtain ⟨b, C, g, rfl, N⟩ := h₁
  refine hNo ?_
  clear hNo
  refine wpAny_pyIter_gen N.isg ?_
  have F₁ : Fm s₀ R X L m s₁ := F.call N.step (Grow.refl _ _) (F.has.trans N.step.sub) hX
  have hRC : R.get? C = none := by
    cases e : R.get? C with
    | none => rfl
    | some o => have := F.has C o e; rw [N.fresh.2.1] at this; cases this
  have hLs : (s.heap.get? L).isSome = true := by obtain ⟨o, _, _, ho, _⟩ := F.ns; rw [ho]; rfl
  have inH : ∀ c, (s.heap.get? c).isSome = true → ((only (fun c => c != C) s₁.heap).get? c).isSome = true := fun c hc => by
    obtain ⟨o, ho⟩ := Option.isSome_iff_exists.mp hc
    rw [only_get, if_pos]
    · rw [N.step.sub c o ho]; rfl
    · have : c ≠ C := by rintro rfl; rw [N.fresh.2.1] at ho; cases ho
      simpa using this
  have hLH := inH L hLs
  have hbH : ((only (fun c => c != C) s₁.heap).get? b).isSome = true := by
    refine Classical.byContradiction fun hNo => ?_
    obtain ⟨o, _, _, ho, _⟩ := N.isg
    refine hNo ?_
    clear hNo
    rw [only_get, if_pos (by simpa using N.fresh.2.2.1), ho]; rfl
  have hbL : b ≠ L := by rintro rfl; rw [N.fresh.1] at hLs; cases hLs
  have hbX : b ∉ X := fun hm => by have := hX b hm; rw [N.fresh.1] at this; cases this
  have h0H : ∀ c, (s₀.heap.get? c).isSome = true → ((only (fun c => c != C) s₁.heap).get? c).isSome = true := fun c hc => by
    obtain ⟨o, ho⟩ := Option.isSome_iff_exists.mp hc
    exact inH c (by rw [F.step.sub c o ho]; rfl)
  have hg0 : s₀.gens.size ≤ g := by
    rw [← N.fresh.2.2.2]
    rcases Nat.lt_or_ge s.gens.size s₀.gens.size with h | h
    · exfalso
      have := F.step.gens _ _ (Array.getElem?_eq_getElem h)
      rw [Array.getElem?_eq_none (Nat.le_refl _)] at this; cases this
    · exact h
  refine ⟨fun q s => ∃ k m₁, q + k = (escItems false 0 x.cps.toList).length ∧ Fm s₀ R X L m₁ s ∧ J k m₁ s ∧ GenAt prog w A b g (only (fun c => c != C) s₁.heap) R (escItems false 0 x.cps.toList) k s, (escItems false 0 x.cps.toList).length,
    ⟨0, m, rfl, F₁, hJ _ _ _ _ h0 fun y _ o ho => N.step.sub y o ho, N.at G hA hRC (Sub.refl _) rfl⟩, ?_⟩
  intro q s₂ hJo
  refine Classical.byContradiction fun hNo => ?_
  obtain ⟨k, m₁, hq, F₂, hJ₂, GA⟩ := hJo
  refine hNo ?_
  clear hNo
  refine drawG (hA.le (by omega)) G.lim F₂ GA (by omega) hbH hLH hbL h0H hg0 hl1 hl2 hkind hL (fun hk s₃ F₃ hkeep => ?_) fun p hp t u s₃ F₃ hkeep GA₃ => ?_
  · subst hk
    exact done m₁ s₃ F₃ (hJ _ _ _ _ hJ₂ fun y hy o ho => hkeep y (inH y (hX y hy)) o ho)
  · have kX : ∀ y ∈ X, ∀ o, s₂.heap.get? y = some o → s₃.heap.get? y = some o := fun y hy o ho => hkeep y (fun h => hLX (h ▸ hy)) (inH y (hX y hy)) o ho
    have lX : ∀ y ∈ X, (s₃.heap.get? y).isSome = true := fun y hy => GA₃.dom y (inH y (hX y hy))
    refine wpAny_mono (step k p m₁ s₃ t u hp (hJ _ _ _ _ hJ₂ kX) F₃ lX) (fun f s₄ h₄ => ?_) fun _ _ q => q
    have hk : k < (escItems false 0 x.cps.toList).length := (List.getElem?_eq_some_iff.mp hp).1
    have fin : (∃ m₂, Fm s₀ R X L m₂ s₄ ∧ J (k + 1) m₂ s₄ ∧ Mv (L :: X) s₃ s₄ ∧ ∀ y ∈ X, (s₄.heap.get? y).isSome = true) → ∃ mm, mm < q ∧ ∃ k m₁, mm + k = (escItems false 0 x.cps.toList).length ∧ Fm s₀ R X L m₁ s₄ ∧ J k m₁ s₄ ∧ GenAt prog w A b g (only (fun c => c != C) s₁.heap) R (escItems false 0 x.cps.toList) k s₄ := by
      intro hJo
      refine Classical.byContradiction fun hNo => ?_
      obtain ⟨m₂, F₄, hJ₄, M₄, lX₄⟩ := hJo
      refine hNo ?_
      clear hNo
      refine ⟨q - 1, by omega, k + 1, m₂, by omega, F₄, hJ₄, GA₃.move M₄.kb M₄.gens (fun y hy => ?_) (by simp [hbL, hbX])⟩
      rcases List.mem_cons.mp hy with rfl | hy
      · obtain ⟨o, _, _, ho, _⟩ := F₄.ns; exact ⟨hLH, by rw [ho]; rfl⟩
      · exact ⟨inH y (hX y hy), lX₄ y hy⟩
    cases f <;> first | exact fin h₄ | exact h₄
end
end Mine
end
section
open PySem PySem.W PySem.Calls PyProof.Rows
set_option maxRecDepth 100000
set_option linter.unusedVariables false
set_option linter.unusedSimpArgs false
namespace Mine

/-! ## slices of texts -/
theorem idx_nat (a b n : Nat) : Builtin.Str.strSliceIndices (some (a : Int)) (some (b : Int)) 1 n = (List.range (min b n - min a n)).map (min a n + ·) := by
  rw [← sliceRange_one]
  unfold Builtin.Str.strSliceIndices
  have e : ∀ k : Nat, (max (0 : Int) (min (if (k : Int) < 0 then (k : Int) + n else k) n)) = ((min k n : Nat) : Int) := fun k => by
    rw [if_neg (by omega)]; omega
  simp only [show (1 : Int) > 0 from by decide, if_true, e]

theorem clip {α : Type} (l : List α) (a b : Nat) : (l.drop (min a l.length)).take (min b l.length - min a l.length) = (l.drop a).take (b - a) := by
  rcases Nat.le_total a l.length with ha | ha
  · rw [Nat.min_eq_left ha]
    rcases Nat.le_total b l.length with hb | hb
    · rw [Nat.min_eq_left hb]
    · rw [Nat.min_eq_right hb, List.take_of_length_le (Nat.le_of_eq List.length_drop), List.take_of_length_le (by rw [List.length_drop]; exact Nat.sub_le_sub_right hb a)]
  · rw [Nat.min_eq_right ha, List.drop_eq_nil_of_le (Nat.le_refl _), List.drop_eq_nil_of_le ha, List.take_nil, List.take_nil]
theorem max_sub (p q : Nat) : max p q - p = q - p := by
  rcases Nat.le_total p q with h | h
  · rw [Nat.max_eq_right h]
  · rw [Nat.max_eq_left h, Nat.sub_self, Nat.sub_eq_zero_of_le h]
theorem slice_nat (x : Str) (a b : Nat) : StrLaws.sliceText x (some (a : Int)) (some (b : Int)) = ⟨((x.cps.toList.drop a).take (b - a)).toArray⟩ := by
  have hm : ∀ k : Nat, min k x.length ≤ x.length := fun k => Nat.min_le_right _ _
  have hM : max (min a x.length) (min b x.length) ≤ x.length := Nat.max_le.mpr ⟨hm a, hm b⟩
  have h1 : StrLaws.sliceText x (some (a : Int)) (some (b : Int)) = StrLaws.sliceText x (some ((min a x.length : Nat) : Int)) (some ((max (min a x.length) (min b x.length) : Nat) : Int)) := by
    unfold StrLaws.sliceText
    rw [idx_nat, idx_nat, Nat.min_eq_left (hm a), Nat.min_eq_left hM, max_sub]
  rw [h1, StrLaws.sliceText_nat x (Nat.le_max_left _ _) hM, max_sub]
  exact congrArg (fun l : List Nat => (⟨l.toArray⟩ : Str)) (clip x.cps.toList a b)

theorem slice_from (x : Str) (a : Nat) : StrLaws.sliceText x (some (a : Int)) none = ⟨(x.cps.toList.drop a).toArray⟩ := by
  have h : StrLaws.sliceText x (some (a : Int)) none = StrLaws.sliceText x (some (a : Int)) (some (x.length : Int)) := by
    unfold StrLaws.sliceText
    rw [StrLaws.sliceIdx_none_hi]
  rw [h, slice_nat]
  congr 2
  rw [List.take_of_length_le]
  simp [Str.length]

theorem sliceQ {x : Str} {t : Tok} {l u : Option (Int × Tok)} {Q : Value → Shared → Prop} {s : Shared} {cs : List Nat} (hc : StrLaws.sliceText x (l.map (·.1)) (u.map (·.1)) = ⟨cs.toArray⟩)
    (hx : x.length ≤ 1000) (h : ∀ t' tk, Q (.str ⟨cs.toArray⟩ t') { s with toks := tk }) : (sliceMade x t l u none).post Q s := by
  have e : sliceMade x t l u none = if ((1 : Int) == 1 && (Builtin.Str.strSliceIndices (l.map (·.1)) (u.map (·.1)) 1 x.length).length == x.length) = true then .val (.str x t) else .str ⟨((Builtin.Str.strSliceIndices (l.map (·.1)) (u.map (·.1)) 1 x.length).filterMap (x.cps[·]?)).toArray⟩ := rfl
  rw [e]
  refine post_val_or_str ⟨?_, fun t' k => ?_⟩
  · show (StrLaws.sliceText x (l.map (·.1)) (u.map (·.1))).length ≤ sizeLine
    have : (StrLaws.sliceText x (l.map (·.1)) (u.map (·.1))).length ≤ x.length := PyProof.Txt.length_slice_le x _ _
    rw [sizeLine_eq]; omega
  · show Q (.str (StrLaws.sliceText x (l.map (·.1)) (u.map (·.1))) t') _
    rw [hc]; exact h t' k

theorem str_join : ∀ l : List (List Nat), Str.join (⟨#[]⟩ : Str) (l.map fun c => ⟨c.toArray⟩) = ⟨l.flatten.toArray⟩
  | [] => rfl
  | [c] => by
    show (⟨c.toArray⟩ : Str) = _
    simp
  | c :: d :: l => by
    have ih := str_join (d :: l)
    show (⟨c.toArray⟩ : Str) ++ ⟨#[]⟩ ++ Str.join ⟨#[]⟩ ((d :: l).map fun c => ⟨c.toArray⟩) = _
    rw [ih]
    show (⟨c.toArray ++ #[] ++ (d :: l).flatten.toArray⟩ : Str) = _
    simp
theorem txt_join (l : List (List Nat)) : Txt.join (⟨#[]⟩ : Str) (l.map fun c => ⟨c.toArray⟩) = ⟨l.flatten.toArray⟩ :=
  (StrLaws.glued_eq_join _ _).trans (str_join l)

noncomputable def strV (cs : List Nat) (v : Value) : Prop := ∃ t, v = .str ⟨cs.toArray⟩ t

/-- a list of texts -/
noncomputable def IsTexts (h : Heap) (D : Addr) (l : List (List Nat)) : Prop := ∃ vs : List Value, PlainL h D vs.toArray ∧ All2 (fun v c => strV c v) vs l
theorem IsTexts.at {h h' : Heap} {D : Addr} {l : List (List Nat)} (x : IsTexts h D l) (k : ∀ o, h.get? D = some o → h'.get? D = some o) : IsTexts h' D l :=
  let ⟨vs, p, r⟩ := x; ⟨vs, p.at k, r⟩
theorem strsAre_of : ∀ {vs : List Value} {l : List (List Nat)}, All2 (fun v c => strV c v) vs l → ∃ ys : List (Str × Tok), vs = strValues ys ∧ ys.map (·.1) = l.map fun c => ⟨c.toArray⟩
  | [], [], _ => ⟨[], rfl, rfl⟩
  | v :: vs, c :: l, h => by
    refine Classical.byContradiction fun hNo => ?_
    obtain ⟨⟨t, rfl⟩, h⟩ := h
    obtain ⟨ys, rfl, e⟩ := strsAre_of h
    refine hNo ?_
    clear hNo
    exact ⟨(⟨c.toArray⟩, t) :: ys, rfl, by simp [e]⟩
  | [], _ :: _, h => h.elim
  | _ :: _, [], h => h.elim

section
variable {prog : Program} {w : World} {A : Around} {s : Shared}
end
end Mine
end
section
open PySem PySem.W PySem.Calls PyProof.Rows
set_option maxRecDepth 100000
set_option linter.unusedVariables false
set_option linter.unusedSimpArgs false
namespace Mine

/-! ## _strip_quoted_realnames, _check_parenthesis -/
structure SS where
  start : Nat
  op : Option Nat
  res : List (List Nat)
noncomputable def stripStep (cs : List Nat) (st : SS) (p : Nat × List Nat) : SS :=
  if p.2 = [34] then match st.op with
    | none => ⟨st.start, some p.1, st.res⟩
    | some o => ⟨p.1 + 1, none, if st.start = o then st.res else st.res ++ [(cs.drop st.start).take (o - st.start)]⟩
  else st
noncomputable def stripAll (cs : List Nat) (its : List (Nat × List Nat)) : SS := its.foldl (stripStep cs) ⟨0, none, []⟩
noncomputable def stripRes (cs : List Nat) (st : SS) : List (List Nat) := if st.start < cs.length then st.res ++ [cs.drop st.start] else st.res
noncomputable def stripPure (cs : List Nat) : List Nat := if 34 ∈ cs then (stripRes cs (stripAll cs (escItems false 0 cs))).flatten else cs

theorem stripStep_res (cs : List Nat) (st : SS) (p : Nat × List Nat) (n : Nat) (h : st.res.length ≤ n ∧ ∀ c ∈ st.res, c.length ≤ cs.length) :
    (stripStep cs st p).res.length ≤ n + 1 ∧ ∀ c ∈ (stripStep cs st p).res, c.length ≤ cs.length := by
  unfold stripStep
  split
  · split
    · exact ⟨by have := h.1; show st.res.length ≤ n + 1; omega, h.2⟩
    · dsimp only
      split
      · exact ⟨by have := h.1; omega, h.2⟩
      · refine ⟨by simp; exact h.1, fun c hc => ?_⟩
        rcases List.mem_append.mp hc with hc | hc
        · exact h.2 c hc
        · simp only [List.mem_singleton] at hc; subst hc; simp; omega
  · exact ⟨by have := h.1; omega, h.2⟩
theorem stripAll_res (cs : List Nat) : ∀ (its : List (Nat × List Nat)) (st : SS) (n : Nat), (st.res.length ≤ n ∧ ∀ c ∈ st.res, c.length ≤ cs.length) →
    (its.foldl (stripStep cs) st).res.length ≤ n + its.length ∧ ∀ c ∈ (its.foldl (stripStep cs) st).res, c.length ≤ cs.length
  | [], st, n, h => h
  | p :: its, st, n, h => by
    have := stripAll_res cs its (stripStep cs st p) (n + 1) (stripStep_res cs st p n h)
    refine ⟨?_, this.2⟩
    have h1 := this.1
    simp only [List.length_cons, List.foldl_cons]
    omega
theorem escItems_len : ∀ (cs : List Nat) (esc : Bool) (i : Nat), (escItems esc i cs).length ≤ cs.length + 1
  | [], esc, i => by cases esc <;> simp [escItems]
  | c :: cs, esc, i => by
    have h1 := escItems_len cs false (i + 1)
    have h2 := escItems_len cs true (i + 1)
    simp only [escItems]
    split
    · simp only [List.length_cons]; omega
    · split <;> simp only [List.length_cons] <;> omega

theorem lit_eq (l : List Nat) (c : Nat) : (l == [c]) = decide (l = [c]) := by
  by_cases h : l = [c] <;> simp [h]

section
variable {prog : Program} {w : World} {A : Around} {mg mb : Str → Option Value} {s : Shared} {R : Heap} {E : Value → Shared → Prop}

/-- ''.join(e) -/
theorem joinCall {env : Env} {e : Expr} {kd : Nat} {p1 apos pos : Pos} {Q : Value → Shared → Prop}
    (hs : starEach [e] env = [(false, eval e env)]) (hline : (apos.endLine == pos.line) = true)
    (h : wpAny (model prog w) A (eval e env) (fun v s₁ => ∃ D l, v = .ref D ∧ IsTexts s₁.heap D l ∧ l.length ≤ 1000 ∧ (∀ c ∈ l, c.length ≤ 1000) ∧ ∀ t' tk, Q (.str ⟨l.flatten.toArray⟩ t') { s₁ with toks := tk }) E { s with toks := s.toks + 1 })
    (hbase : attributeBase (.Constant (.str "") kd p1) "join" env (eval (.Constant (.str "") kd p1) env) = eval (.Constant (.str "") kd p1) env := by rfl) :
    wpAny (model prog w) A (eval (.Call (.Attribute (.Constant (.str "") kd p1) "join" apos) [e] [] pos) env) Q E s := by
  refine Call_method1 hbase hs hline (wpAny_Constant_str ?_)
  refine SB.join (wpAny_mono h (fun v s₁ h₁ => ?_) fun _ _ q => q)
  refine Classical.byContradiction fun hNo => ?_
  obtain ⟨D, l, rfl, ⟨vs, hp, ha⟩, hn, hc, hq⟩ := h₁
  obtain ⟨ys, rfl, ey⟩ := strsAre_of ha
  refine hNo ?_
  clear hNo
  refine ⟨D, ys, rfl, hp.isList, _, ey, joinOk_of_weight ?_ (by decide), fun t' k => ?_⟩
  · have : ((l.map fun c => (⟨c.toArray⟩ : Str)).map (·.length)).sum ≤ l.length * 1000 := by
      clear ey hp ha hq hn
      induction l with
      | nil => simp
      | cons c l ih =>
        have h1 := hc c (by simp)
        have h2 := ih fun d hd => hc d (by simp [hd])
        simp only [List.map_cons, List.sum_cons, List.length_cons]
        have : (⟨c.toArray⟩ : Str).length = c.length := by simp [Str.length]
        omega
    have h3 : (l.map fun c => (⟨c.toArray⟩ : Str)).length = l.length := by simp
    have h4 : l.length * 1000 ≤ 1000 * 1000 := Nat.mul_le_mul_right _ hn
    omega
  · rw [show Txt.join (Str.ofString "") (l.map fun c => (⟨c.toArray⟩ : Str)) = _ from txt_join l]; exact hq t' k

theorem IsTexts.push {h h' : Heap} {D : Addr} {l : List (List Nat)} {vs : List Value} {v : Value} {c : List Nat} (hp : PlainL h' D (vs.toArray.push v)) (ha : All2 (fun v c => strV c v) vs l) (hv : strV c v) : IsTexts h' D (l ++ [c]) :=
  ⟨vs ++ [v], by simpa using hp, ha.append ⟨hv, trivial⟩⟩

/-- xs.append(e) -/
theorem appendCall {env : Env} {o e : Expr} {apos cpos pos : Pos} {D : Addr} {l : List (List Nat)} {c : List Nat} {Q : Flow → Shared → Prop}
    (ho : ∀ Q' : Value → Shared → Prop, Q' (.ref D) s → wpAny (model prog w) A (eval o env) Q' E s) (hl : IsTexts s.heap D l) (hn : l.length ≤ 1000)
    (he : wpAny (model prog w) A (eval e env) (fun v s₁ => strV c v ∧ (∀ o, s.heap.get? D = some o → s₁.heap.get? D = some o) ∧ ∀ h', IsTexts h' D (l ++ [c]) → Heap.SameBut D s₁.heap h' → Q .next { s₁ with heap := h' }) E s)
    (hst : starEach [e] env = [(false, eval e env)]) (hline : (apos.endLine == cpos.line) = true) (hbase : attributeBase o "append" env (eval o env) = eval o env)
    (hi : interactive env = false) (hsw : swapsWith (.Call (.Attribute o "append" apos) [e] [] cpos) none pos.line env = pure false) :
    wpAny (model prog w) A (exec (.Expr (.Call (.Attribute o "append" apos) [e] [] cpos) pos) env) Q E s := by
  refine Classical.byContradiction fun hNo => ?_
  obtain ⟨vs, hp, ha⟩ := hl
  refine hNo ?_
  clear hNo
  refine wpAny_Expr_any (wpAny_Call_append hbase (by rw [hst]; rfl) hline (by rw [hst]; rfl) (ho _ ⟨D, vs.toArray, rfl, hp, wpAny_mono he (fun v s₁ h₁ => ?_) fun _ _ q => q⟩)) hi hsw
  refine Classical.byContradiction fun hNo => ?_
  obtain ⟨hv, hk, hq⟩ := h₁
  refine hNo ?_
  clear hNo
  refine list_append_plainL (hp.at hk) (fun h' hp' hs' => hq h' (IsTexts.push (h := s₁.heap) hp' ha hv) hs') ?_
  have := ha.length
  rw [List.size_toArray, sizeLine_eq]; omega
end
end Mine
end
section
open PySem PySem.W PySem.Calls PyProof.Rows
set_option maxRecDepth 100000
set_option linter.unusedVariables false
set_option linter.unusedSimpArgs false
namespace Mine

section
variable {prog : Program} {w : World} {A : Around} {mg mb : Str → Option Value} {s : Shared} {R : Heap}

noncomputable def opV : Option Nat → Value → Prop
  | none, v => v = .none
  | some o, v => ∃ t, v = .int (o : Int) t

structure StripJ (cs : List Nat) (tx : Tok) (D : Addr) (its : List (Nat × List Nat)) (k : Nat) (m : Str → Option Value) (s : Shared) : Prop where
  addr : m "addr" = some (.str ⟨cs.toArray⟩ tx)
  start : ∃ t, m "start" = some (.int ((stripAll cs (its.take k)).start : Int) t)
  op : ∃ v, m "open_pos" = some v ∧ opV (stripAll cs (its.take k)).op v
  res : m "result" = some (.ref D)
  ls : IsTexts s.heap D (stripAll cs (its.take k)).res

set_option maxHeartbeats 2000000 in
theorem strip_spec (G : GE prog w mg mb R) (hA : AOk A 12) (hR : Sub R s.heap) (a : Addr) (ha : mg "_strip_quoted_realnames" = some (.ref a)) {cs : List Nat} {tx : Tok} (hn : cs.length ≤ 900) :
    wpAny (model prog w) A (call (.ref a) [.str ⟨cs.toArray⟩ tx]) (Ret s R (fun _ v => strV (stripPure cs) v)) NoE s := by
  refine enterFn G 6 (k := 11) (binds := [("addr", .str ⟨cs.toArray⟩ tx)]) hA hR rfl ha (by simp) (fun _ _ _ => rfl) (by rfl) (fun L cd s₁ F _ A' => ?_) rfl rfl rfl (by decide +kernel)
  have hcl : (⟨cs.toArray⟩ : Str).length = cs.length := by simp [Str.length]
  refine wpAny_execs_cons (wpAny_If (wpAny_isTrue_Compare1 (wpAny_Constant_str (nmL F.tok rfl (PySem.P.notIn_str (wpAny_truthy_bool ?_))))))
  have hq : (!(!(Builtin.Str.occurrences (⟨cs.toArray⟩ : Str) ("\"" : Str) 0 (⟨cs.toArray⟩ : Str).length 1).isEmpty)) = decide (34 ∉ cs) := by
    have := StrLaws.found_one (⟨cs.toArray⟩ : Str) 34
    rw [show (("\"" : Str)) = ⟨#[34]⟩ from rfl, this]
    simp
  rw [hq]
  have F := F.tok (tk := s₁.toks + 1)
  by_cases h34 : 34 ∈ cs
  case neg =>
    refine wp_if_t (by simp only [h34, not_false_eq_true, decide_true]) ?_
    refine wpAny_execs_cons (wpAny_Return_some (nmL F rfl (F.ret R (Grow.refl _ _) ⟨tx, ?_⟩)))
    rw [stripPure, if_neg h34]
  refine wp_if_f (by simp only [h34, not_true_eq_false, decide_false]) ?_
  refine wpAny_execs_nil ?_
  refine wpAny_execs_cons (wpAny_Assign_Name (wpAny_Constant_int (stL F.tok fun s₂ F₂ M₂ => ?_)))
  refine wpAny_execs_cons (wpAny_Assign_Name (wpAny_Constant_none (stL F₂ fun s₃ F₃ M₃ => ?_)))
  refine wpAny_execs_cons (wpAny_Assign_Name (wpAny_List (wpAny_items_nil ⟨Nat.zero_le _, ?_⟩)))
  have F₄ := F₃.new (tk := s₃.toks) { cls := .type "list", data := .seq ([] : List Value).toArray }
  have hD : IsTexts (s₃.heap.push { cls := .type "list", data := .seq ([] : List Value).toArray }) s₃.heap.objs.size [] := ⟨[], ⟨_, _, Heap.get?_push_size _ rfl, rfl, rfl, rfl⟩, trivial⟩
  have hLD : L ≠ s₃.heap.objs.size := Nat.ne_of_lt F₃.lt
  generalize s₃.heap.objs.size = D at F₄ hD hLD ⊢
  refine stL F₄ fun s₅ F₅ M₅ => ?_
  replace hD : IsTexts s₅.heap D [] := hD.at (M₅.at (by simpa using Ne.symm hLD))
  have live : ∀ {s : Shared} {l}, IsTexts s.heap D l → ∀ y ∈ [D], (s.heap.get? y).isSome = true := fun h y hy => by
    obtain rfl := List.mem_singleton.mp hy
    obtain ⟨_, ⟨o, _, ho, _⟩, _⟩ := h; rw [ho]; rfl
  have hlen : (escItems false 0 cs).length ≤ 901 := Nat.le_trans (escItems_len cs false 0) (by omega)
  have resOk : ∀ k, (stripAll cs ((escItems false 0 cs).take k)).res.length ≤ 901 ∧ ∀ c ∈ (stripAll cs ((escItems false 0 cs).take k)).res, c.length ≤ cs.length := fun k => by
    have := stripAll_res cs ((escItems false 0 cs).take k) ⟨0, none, []⟩ 0 ⟨Nat.le_refl _, by simp⟩
    refine ⟨Nat.le_trans this.1 ?_, this.2⟩
    rw [List.length_take]; omega
  refine wpAny_execs_cons (forGen (x := ⟨cs.toArray⟩) (tx := tx) (J := fun k m s => StripJ cs tx D (escItems false 0 cs) k m s) (A'.le (by omega)) G F₅ (live hD) (by simpa using hLD) (fun Q' q => nmL F₅ rfl q) rfl rfl rfl rfl rfl rfl rfl
    ⟨rfl, ⟨_, rfl⟩, ⟨_, rfl, rfl⟩, rfl, hD⟩ (fun k m s s' h g => ⟨h.addr, h.start, h.op, h.res, h.ls.at (g D (by simp))⟩) (fun k p m₁ s₁ t u hp J F lX => ?_) fun m₁ s₁ F J => ?_)
  · -- a turn
    have hset : stripAll cs ((escItems false 0 cs).take (k + 1)) = stripStep cs (stripAll cs ((escItems false 0 cs).take k)) p := by
      rw [take_succ_of hp, stripAll, stripAll, List.foldl_append]; rfl
    have hrk := resOk k
    generalize hst : stripAll cs ((escItems false 0 cs).take k) = st at hset hrk
    refine Classical.byContradiction fun hNo => ?_
    obtain ⟨ts, hstart⟩ := J.start
    obtain ⟨vo, hvo, hop⟩ := J.op
    refine hNo ?_
    clear hNo
    have hls := J.ls
    rw [hst] at hstart hop hls
    refine wpAny_execs_cons (wpAny_If (wpAny_isTrue_Compare1 (nmL F rfl (wpAny_Constant_str (PySem.P.eq_str (wpAny_truthy_bool ?_))))))
    rw [show (((⟨p.2.toArray⟩ : Str)).cps.toList == (("\"" : Str)).cps.toList) = decide (p.2 = [34]) from lit_eq p.2 34]
    have F := F.tok (tk := s₁.toks + 1)
    by_cases h : p.2 = [34]
    case neg =>
      refine wp_if_f (by simp only [h, decide_false]) ?_
      refine wpAny_execs_nil (wpAny_execs_nil ⟨_, F, ?_, ⟨KB.refl _ _, rfl⟩, lX⟩)
      have he : stripStep cs st p = st := by rw [stripStep, if_neg h]
      exact ⟨J.addr, ⟨ts, by rw [hset, he]; exact hstart⟩, ⟨vo, hvo, by rw [hset, he]; exact hop⟩, J.res, by rw [hset, he]; exact hls⟩
    refine wp_if_t (by simp only [h, decide_true]) ?_
    refine wpAny_execs_cons (wpAny_If (wpAny_isTrue_Compare1 (nmL F (by exact hvo) (wpAny_Constant_none (PySem.is_none (wpAny_truthy_bool ?_))))))
    cases ho : st.op with
    | none =>
      rw [ho] at hop
      obtain rfl : vo = .none := hop
      rw [show ((Value.none == Value.none) : Bool) = true from rfl]
      refine wp_if_t rfl ?_
      refine wpAny_execs_cons (wpAny_Assign_Name (nmL F rfl (stL F fun s₂ F₂ M₂ => ?_)))
      refine wpAny_execs_nil (wpAny_execs_nil (wpAny_execs_nil ⟨_, F₂, ?_, ⟨M₂.kb.mono (by simp), M₂.gens⟩, live (hls.at (M₂.at (by simpa using Ne.symm hLD)))⟩))
      have he : stripStep cs st p = ⟨st.start, some p.1, st.res⟩ := by rw [stripStep, if_pos h, ho]
      exact ⟨J.addr, ⟨ts, by rw [hset, he]; exact hstart⟩, ⟨_, rfl, by rw [hset, he]; exact ⟨_, rfl⟩⟩, J.res, by rw [hset, he]; exact hls.at (M₂.at (by simpa using Ne.symm hLD))⟩
    | some o =>
      rw [ho] at hop
      obtain ⟨to, rfl⟩ := hop
      rw [show ((Value.int (o : Int) to == Value.none) : Bool) = false from rfl]
      refine wp_if_f rfl ?_
      -- what follows the inner if
      have rest : ∀ (res' : List (List Nat)) (s₂ : Shared), (res' = if st.start = o then st.res else st.res ++ [(cs.drop st.start).take (o - st.start)]) →
          Fm s R [D] L (fun y => if y = "ch" then some (.str ⟨p.2.toArray⟩ u) else if y = "pos" then some (.int (p.1 : Int) t) else m₁ y) s₂ → IsTexts s₂.heap D res' → Mv [L, D] s₁ s₂ →
          wpAny (model prog w) (A.deeper (envOf (fn 6).name (fn 6).scope L a cd)) (execs (match (fn 6).body.getD 4 (.Pass ⟨0,0,0,0⟩) with | .For _ _ [.If _ [.If _ _ (_ :: r) _] _ _] _ _ => r | _ => []) (envOf (fn 6).name (fn 6).scope L a cd))
            (fun f s₂ => match f with
              | .next | .cont => ∃ m₂, Fm s R [D] L m₂ s₂ ∧ StripJ cs tx D (escItems false 0 cs) (k + 1) m₂ s₂ ∧ Mv [L, D] s₁ s₂ ∧ ∀ y ∈ [D], (s₂.heap.get? y).isSome = true
              | .brk => False
              | .ret v => False) NoE s₂ := fun res' s₂ hres F₂ hl₂ M₂ => by
        refine wpAny_execs_cons (wpAny_Assign_Name (wpAny_BinOp (nmL F₂ rfl (wpAny_Constant_int (wpAny_add_int (stL F₂.tok fun s₃ F₃ M₃ => ?_))))))
        refine wpAny_execs_cons (wpAny_Assign_Name (wpAny_Constant_none (stL F₃ fun s₄ F₄ M₄ => ?_)))
        have K : Mv [L, D] s₁ s₄ := ⟨(M₂.kb.trans (M₃.kb.mono (by simp))).trans (M₄.kb.mono (by simp)), M₄.gens.trans (M₃.gens.trans M₂.gens)⟩
        have hl₄ : IsTexts s₄.heap D res' := (hl₂.at (M₃.at (by simpa using Ne.symm hLD))).at (M₄.at (by simpa using Ne.symm hLD))
        refine wpAny_execs_nil ⟨_, F₄, ?_, K, live hl₄⟩
        have he : stripStep cs st p = ⟨p.1 + 1, none, res'⟩ := by rw [stripStep, if_pos h, ho, hres]
        exact ⟨J.addr, ⟨_, by rw [hset, he]; rfl⟩, ⟨_, rfl, by rw [hset, he]; rfl⟩, J.res, by rw [hset, he]; exact hl₄⟩
      refine wpAny_execs_cons (wpAny_If (wpAny_isTrue_Compare1 (nmL F (by exact hstart) (nmL F (by exact hvo) (PySem.P.ne_int (wpAny_truthy_bool ?_))))))
      by_cases hso : st.start = o
      · have e : (((st.start : Nat) : Int) != (o : Int)) = false := by simp [hso]
        rw [e]
        refine wp_if_f rfl ?_
        refine wpAny_execs_nil ?_
        refine wpAny_mono (rest st.res _ (by rw [if_pos hso]) F hls ⟨KB.refl _ _, rfl⟩) (fun f s₃ q => ?_) fun _ _ q => q
        cases f <;> first | exact wpAny_execs_nil (wpAny_execs_nil q) | exact q | exact q.elim
      · have e : (((st.start : Nat) : Int) != (o : Int)) = true := by simp; omega
        rw [e]
        refine wp_if_t rfl ?_
        refine wpAny_execs_cons (appendCall (D := D) (l := st.res) (c := (cs.drop st.start).take (o - st.start)) (fun Q' q => nmL F (by exact J.res) q) hls (by omega) ?_ rfl rfl rfl rfl rfl)
        refine wpAny_Subscript_str_slice (nmL F (by exact J.addr) (nmL F (by exact hstart) (nmL F (by exact hvo) ⟨⟨cs.toArray⟩, tx, some (_, ts), some (_, to), rfl, rfl, rfl, ?_⟩)))
        refine sliceQ (slice_nat _ _ _) (by rw [hcl]; omega) fun t' tk => ⟨⟨t', rfl⟩, fun o e => sub_push _ _ _ _ e, fun h' hl' hs' => ?_⟩
        have F₂ := F.push (tk := tk) { cls := .type "slice", data := .fields #[.int (st.start : Int) ts, .int (o : Int) to, .none] }
        have F₃ := F₂.other (tk := tk) (KB.of_same hs' (by simp)) (by simpa using hLD)
        refine wpAny_execs_nil ?_
        refine wpAny_mono (rest _ _ (by rw [if_neg hso]) F₃ hl' ⟨(KB.of_sub (sub_push _ _)).trans (KB.of_same hs' (by simp)), rfl⟩) (fun f s₃ q => ?_) fun _ _ q => q
        cases f <;> first | exact wpAny_execs_nil (wpAny_execs_nil q) | exact q | exact q.elim
  · -- behind the loop
    have hrk := resOk (escItems false 0 cs).length
    rw [List.take_length] at hrk
    obtain ⟨ts, hstart⟩ := J.start
    have hls := J.ls
    have e0 : (escItems false 0 (⟨cs.toArray⟩ : Str).cps.toList) = escItems false 0 cs := rfl
    rw [e0, List.take_length] at hstart hls
    have hpure : stripPure cs = (stripRes cs (stripAll cs (escItems false 0 cs))).flatten := by rw [stripPure, if_pos h34]
    generalize stripAll cs (escItems false 0 cs) = st at hrk hstart hls hpure
    have last : ∀ (res' : List (List Nat)) (s₂ : Shared), res' = stripRes cs st → Fm s R [D] L m₁ s₂ → IsTexts s₂.heap D res' →
        wpAny (model prog w) (A.deeper (envOf (fn 6).name (fn 6).scope L a cd)) (execs ((fn 6).body.drop 6) (envOf (fn 6).name (fn 6).scope L a cd))
          (fun f s' => Ret s R (fun _ v => strV (stripPure cs) v) (match f with | .ret v => v | _ => .none) s') NoE s₂ := fun res' s₂ hres F₂ hl₂ => by
      refine wpAny_execs_cons (wpAny_Return_some (joinCall rfl rfl (nmL F₂.tok (by exact J.res) ⟨D, res', rfl, hl₂, ?_, ?_, fun t' tk => ?_⟩)))
      · subst hres; unfold stripRes; split
        · simp; omega
        · omega
      · subst hres; unfold stripRes; intro c hc; split at hc
        · rcases List.mem_append.mp hc with hc | hc
          · exact Nat.le_trans (hrk.2 c hc) (by omega)
          · simp only [List.mem_singleton] at hc; subst hc; simp; omega
        · exact Nat.le_trans (hrk.2 c hc) (by omega)
      · exact (F₂.tok (tk := tk)).ret R (Grow.refl _ _) ⟨t', by rw [hpure, hres]⟩
    refine wpAny_execs_cons (wpAny_If (wpAny_isTrue_Compare1 (nmL F (by exact hstart) (Call_ (nmB F G.g G.b G.len.1 G.len.2 (callWith_builtin rfl (evalArgs_plain (args_cons (nmL F (by exact J.addr) (args_nil (PySem.P.len_str (by rw [hcl]; omega) (PySem.P.lt_int (wpAny_truthy_bool ?_)))))))))))))
    have e1 : decide (((st.start : Nat) : Int) < ((⟨cs.toArray⟩ : Str).length : Int)) = decide (st.start < cs.length) := by rw [hcl]; simp
    rw [e1]
    have F := F.tok (tk := s₁.toks + 1 + 1)
    by_cases hlt : st.start < cs.length
    · refine wp_if_t (by simp only [hlt, decide_true]) ?_
      refine wpAny_execs_cons (appendCall (D := D) (l := st.res) (c := cs.drop st.start) (fun Q' q => nmL F (by exact J.res) q) hls (by omega) ?_ rfl rfl rfl rfl rfl)
      refine wpAny_Subscript_str_slice (nmL F (by exact J.addr) (nmL F (by exact hstart) (wpAny_pure ⟨⟨cs.toArray⟩, tx, some (_, ts), none, rfl, rfl, rfl, ?_⟩)))
      refine sliceQ (slice_from _ _) (by rw [hcl]; omega) fun t' tk => ⟨⟨t', rfl⟩, fun o e => sub_push _ _ _ _ e, fun h' hl' hs' => ?_⟩
      have F₂ := F.push (tk := tk) { cls := .type "slice", data := .fields #[.int (st.start : Int) ts, .none, .none] }
      have F₃ := F₂.other (tk := tk) (KB.of_same hs' (by simp)) (by simpa using hLD)
      exact wpAny_execs_nil (last _ _ (by rw [stripRes, if_pos hlt]) F₃ hl')
    · refine wp_if_f (by simp only [hlt, decide_false]) ?_
      exact wpAny_execs_nil (last _ _ (by rw [stripRes, if_neg hlt]) F hls)
end
end Mine
end
section
open PySem PySem.W PySem.Calls PyProof.Rows
set_option maxRecDepth 100000
set_option linter.unusedVariables false
set_option linter.unusedSimpArgs false
namespace Mine

noncomputable def checkRun : Int → List (List Nat) → Bool
  | n, [] => n == 0
  | n, u :: us => if u = [40] then checkRun (n + 1) us else if u = [41] then (if n - 1 < 0 then false else checkRun (n - 1) us) else checkRun n us
noncomputable def checkPure (cs : List Nat) : Bool := checkRun 0 ((escItems false 0 (stripPure cs)).map (·.2))

section
variable {prog : Program} {w : World} {A : Around} {mg mb : Str → Option Value} {s : Shared} {R : Heap}

theorem drop_of {α : Type} {l : List α} {k : Nat} {p : α} (h : l[k]? = some p) : l.drop k = p :: l.drop (k + 1) := by
  obtain ⟨hk, e⟩ := List.getElem?_eq_some_iff.mp h
  rw [List.drop_eq_getElem_cons hk, e]

set_option maxHeartbeats 2000000 in
theorem check_spec (G : GE prog w mg mb R) (hA : AOk A 16) (hR : Sub R s.heap) (a : Addr) (ha : mg "_check_parenthesis" = some (.ref a)) {cs : List Nat} {tx : Tok} (hn : cs.length ≤ 900) :
    wpAny (model prog w) A (call (.ref a) [.str ⟨cs.toArray⟩ tx]) (Ret s R (fun _ v => v = .bool (checkPure cs))) NoE s := by
  refine enterFn G 7 (k := 15) (binds := [("addr", .str ⟨cs.toArray⟩ tx)]) hA hR rfl ha (by simp) (fun _ _ _ => rfl) (by rfl) (fun L cd s₁ F _ A' => ?_) rfl rfl rfl (by decide +kernel)
  refine wpAny_execs_cons (wpAny_Assign_Name (callF F G.g (G.fns 6 (by simp)) rfl (args_cons (nmL F rfl (args_nil ⟨F.has, fun a' ha' => ?_⟩)))))
  refine wpAny_mono (strip_spec G (A'.le (by omega)) F.has a' ha' hn) (fun v s₂ h₂ => ?_) fun _ _ q => q
  have F0 := F
  refine Classical.byContradiction fun hNo => ?_
  obtain ⟨st, R', G', S', tv, rfl⟩ := h₂
  refine hNo ?_
  clear hNo
  have F₂ := F.call st G' S' (by simp)
  have GG := G.keeps G'.sub
  refine stL F₂ fun s₃ F₃ M₃ => ?_
  refine wpAny_execs_cons (wpAny_Assign_Name (wpAny_Constant_int (stL F₃.tok fun s₄ F₄ M₄ => ?_)))
  refine wpAny_execs_cons (forGen (x := ⟨(stripPure cs).toArray⟩) (tx := tv) (J := fun k m s => ∃ n t, m "opens" = some (.int n t) ∧ checkPure cs = checkRun n (((escItems false 0 (stripPure cs)).map (·.2)).drop k)) (A'.le (by omega)) GG F₄ (by simp) (by simp) (fun Q' q => nmL F₄ rfl q) rfl rfl rfl rfl rfl rfl rfl
    ⟨0, _, rfl, rfl⟩ (fun k m s s' h g => h) (fun k p m₁ s₁ t u hp J F lX => ?_) fun m₁ s₁ F J => ?_)
  · obtain ⟨n, to, hop, hch⟩ := J
    have hp' : ((escItems false 0 (stripPure cs)).map (·.2))[k]? = some p.2 := by
      rw [List.getElem?_map, show (escItems false 0 (stripPure cs))[k]? = some p from hp]; rfl
    rw [drop_of hp'] at hch
    refine wpAny_execs_cons (wpAny_If (wpAny_isTrue_Compare1 (nmL F rfl (wpAny_Constant_str (PySem.P.eq_str (wpAny_truthy_bool ?_))))))
    rw [show (((⟨p.2.toArray⟩ : Str)).cps.toList == (("(" : Str)).cps.toList) = decide (p.2 = [40]) from lit_eq p.2 40]
    have F := F.tok (tk := s₁.toks + 1)
    by_cases h40 : p.2 = [40]
    · refine wp_if_t (by simp only [h40, decide_true]) ?_
      refine wpAny_execs_cons (wpAny_AugAssign_Name (ldL F (by exact hop) (wpAny_Constant_int (wpAny_iadd_int (stL F.tok fun s₆ F₇ M₇ => ?_)))))
      refine wpAny_execs_nil (wpAny_execs_nil ⟨_, F₇, ⟨n + 1, _, rfl, ?_⟩, ⟨M₇.kb.mono (by simp), M₇.gens⟩, by simp⟩)
      rw [hch, checkRun, if_pos h40]
    · refine wp_if_f (by simp only [h40, decide_false]) ?_
      refine wpAny_execs_cons (wpAny_If (wpAny_isTrue_Compare1 (nmL F rfl (wpAny_Constant_str (PySem.P.eq_str (wpAny_truthy_bool ?_))))))
      rw [show (((⟨p.2.toArray⟩ : Str)).cps.toList == ((")" : Str)).cps.toList) = decide (p.2 = [41]) from lit_eq p.2 41]
      have F := F.tok (tk := s₁.toks + 1 + 1)
      by_cases h41 : p.2 = [41]
      · refine wp_if_t (by simp only [h41, decide_true]) ?_
        rw [checkRun, if_neg h40, if_pos h41] at hch
        refine wpAny_execs_cons (wpAny_AugAssign_Name (ldL F (by exact hop) (wpAny_Constant_int (PySem.P.isub_int (stL F.tok fun s₆ F₇ M₇ => ?_)))))
        refine wpAny_execs_cons (wpAny_If (wpAny_isTrue_Compare1 (nmL F₇ rfl (wpAny_Constant_int (PySem.P.lt_int (wpAny_truthy_bool ?_))))))
        by_cases hlt : n - 1 < 0
        · rw [if_pos hlt] at hch
          refine wp_if_t (by simp only [hlt, decide_true]) ?_
          exact wpAny_execs_cons (wpAny_Return_some (wpAny_Constant_bool ((F₇.tok).ret R (G'.back F0.step.sub) (by rw [hch]))))
        · rw [if_neg hlt] at hch
          refine wp_if_f (by simp only [hlt, decide_false]) ?_
          refine wpAny_execs_nil (wpAny_execs_nil (wpAny_execs_nil (wpAny_execs_nil ⟨_, F₇.tok, ⟨n - 1, _, rfl, hch⟩, ⟨M₇.kb.mono (by simp), M₇.gens⟩, by simp⟩)))
      · refine wp_if_f (by simp only [h41, decide_false]) ?_
        refine wpAny_execs_nil (wpAny_execs_nil (wpAny_execs_nil ⟨_, F, ⟨n, to, hop, ?_⟩, ⟨KB.refl _ _, rfl⟩, by simp⟩))
        rw [hch, checkRun, if_neg h40, if_neg h41]
  · obtain ⟨n, to, hop, hch⟩ := J
    rw [List.drop_of_length_le (by simp)] at hch
    refine wpAny_execs_cons (wpAny_Return_some (wpAny_Compare1 (nmL F (by exact hop) (wpAny_Constant_int (PySem.P.eq_int ?_)))))
    exact (F.tok).ret R (G'.back F0.step.sub) (by rw [hch]; rfl)
end
end Mine
end
section
open PySem PySem.W PySem.Calls PyProof.Rows
set_option maxRecDepth 100000
set_option linter.unusedVariables false
set_option linter.unusedSimpArgs false
namespace Mine

section
variable {prog : Program} {w : World} {A : Around} {mg mb : Str → Option Value} {s : Shared} {R : Heap}

theorem intIs (prog : Program) (w : World) (k : Int) (t : Tok) : (intKind prog w).is k (.int k t) = true := by simp [intKind, Value.isInt]
theorem signP_len : ∀ i, i < 4 → ∀ j, j < 9 → (signP i j).2.length ≤ 2 := by decide

theorem in_b1_spec (G : GE prog w mg mb R) (hA : AOk A 4) (hR : Sub R s.heap) (a : Addr) (ha : mg "in_table_b1" = some (.ref a)) {c : Nat} {tx : Tok} :
    wpAny (model prog w) A (call (.ref a) [.str ⟨#[c]⟩ tx]) (Ret s R (fun _ v => v = .bool (decide ((c : Int) ∈ b1L)))) NoE s := by
  refine enterFn G 10 (k := 3) (binds := [("code", .str ⟨#[c]⟩ tx)]) hA hR rfl ha (by simp) (fun _ _ _ => rfl) (by rfl) (fun L cd s₁ F _ A' => ?_) rfl rfl rfl (by decide +kernel)
  refine Classical.byContradiction fun hNo => ?_
  obtain ⟨b, n, hb, hS⟩ := G.b1
  refine hNo ?_
  clear hNo
  refine wpAny_execs_cons (wpAny_Return_some (wpAny_Compare1 (Call_ (nmB F G.g G.b G.ord.1 G.ord.2 (callWith_builtin rfl (evalArgs_plain (args_cons (nmL F rfl (args_nil (P.ord_of_char ?_))))))))))
  refine nmG F.tok G.g hb ?_
  refine wpAny_inSet_of (k := (c : Int)) (knd := intKind prog w) (intIs prog w _ _) rfl (setOf_keeps hS F.has) ?_
  exact (F.tok).ret R (Grow.refl _ _) rfl

theorem map_b3_spec (G : GE prog w mg mb R) (hA : AOk A 4) (hR : Sub R s.heap) (a : Addr) (ha : mg "map_table_b3" = some (.ref a)) {i j : Nat} (hi : i < 4) (hj : j < 9) {tx : Tok} :
    wpAny (model prog w) A (call (.ref a) [.str ⟨#[(signP i j).1]⟩ tx]) (Ret s R (fun _ v => strV (signP i j).2 v)) NoE s := by
  refine enterFn G 12 (k := 3) (binds := [("code", .str ⟨#[(signP i j).1]⟩ tx)]) hA hR rfl ha (by simp) (fun _ _ _ => rfl) (by rfl) (fun L cd s₁ F _ A' => ?_) rfl rfl rfl (by decide +kernel)
  refine Classical.byContradiction fun hNo => ?_
  obtain ⟨d, f, hd, hlo, hM, hsay⟩ := G.b3
  refine hNo ?_
  clear hNo
  have hs := hsay i hi j hj
  have hlen := signP_len i hi j hj
  generalize signP i j = p at F hs hlen ⊢
  have hM₁ := mapOf_keeps hM F.has
  refine wpAny_execs_cons (wpAny_Assign_Name (Call_method1 rfl rfl rfl (nmG F G.g hd ⟨"dict", _, PySem.F.plainAttrs_dict, PySem.F.slot_dict_get, PySem.F.type_dict_get, hM₁.typeIs, hM₁.noDict, ?_⟩)))
  refine wpAny_dict_get1 (K := Int) (knd := intKind prog w) hlo (Call_ (nmB F G.g G.b G.ord.1 G.ord.2 (callWith_builtin rfl (evalArgs_plain (args_cons (nmL F rfl (args_nil (P.ord_of_char ?_))))))))
  refine ⟨(p.1 : Int), f, intIs prog w _ _, hM₁, ?_⟩
  refine stL F.tok fun s₂ F₂ M₂ => ?_
  rcases hs with ⟨t, hs⟩ | ⟨hs, hl⟩
  · rw [hs] at F₂
    refine wpAny_execs_cons (wpAny_If (wpAny_isTrue_Compare1 (nmL F₂ rfl (wpAny_Constant_none (PySem.isNot_none (wpAny_truthy_bool ?_))))))
    rw [show (!(((some (Value.str ⟨p.2.toArray⟩ t)).getD Value.none) == Value.none) : Bool) = true from rfl]
    refine wp_if_t rfl ?_
    exact wpAny_execs_cons (wpAny_Return_some (nmL F₂ rfl (F₂.ret R (Grow.refl _ _) ⟨t, rfl⟩)))
  · rw [hs] at F₂
    refine wpAny_execs_cons (wpAny_If (wpAny_isTrue_Compare1 (nmL F₂ rfl (wpAny_Constant_none (PySem.isNot_none (wpAny_truthy_bool ?_))))))
    rw [show (!(((none : Option Value).getD Value.none) == Value.none) : Bool) = false from rfl]
    refine wp_if_f rfl ?_
    refine wpAny_execs_nil (wpAny_execs_cons (wpAny_Return_some (Call_method0 rfl rfl (nmL F₂ rfl (SB.lower ?_ ?_)))))
    · rw [hl]; simp [Builtin.Str.tooLong, sizeLine_eq, Str.length]; omega
    · exact (F₂.tok).ret R (Grow.refl _ _) ⟨_, by rw [hl]⟩
end
end Mine
end
section
open PySem PySem.W PySem.Calls PyProof.Rows
set_option maxRecDepth 100000
set_option linter.unusedVariables false
set_option linter.unusedSimpArgs false
namespace Mine

noncomputable def retV : Flow → Value
  | .ret v => v
  | _ => .none
section
variable {prog : Program} {w : World} {A : Around} {s : Shared} {R : Heap} {mg mb : Str → Option Value}
/-- entering the i-th def -/
theorem enterI (G : GE prog w mg mb R) (i : Nat) {k : Nat} {args : List Value} {binds : List (Str × Value)} {P : Heap → Value → Prop} {a : Addr} {x : Str}
    (hA : AOk A (k + 1)) (hR : Sub R s.heap) (hx : (fn i).name = x) (ha : mg x = some (.ref a))
    (hi : i ∈ [1, 2, 3, 5, 6, 7, 10, 12, 14, 15, 16, 17, 18, 19, 20, 21])
    (hbind : ∀ pm cd doc, bindArgs (docDef (fn i).name (fn i).params (fn i).body (fn i).scope pm cd doc) ⟨args, []⟩ = pure binds)
    (hloc : (binds.all fun x => decide ((fn i).scope.names.lookup x.1 = some .local)) = true)
    (h : ∀ L cd s₁, Fm s R [] L (fun x => binds.reverse.lookup x) s₁ → s₁.gens = s.gens → AOk (A.deeper (envOf (fn i).name (fn i).scope L a cd)) k →
      wpAny (model prog w) (A.deeper (envOf (fn i).name (fn i).scope L a cd)) (execs (fn i).body (envOf (fn i).name (fn i).scope L a cd))
        (fun f s' => Ret s R P (retV f) s') NoE s₁)
    (hco : (fn i).scope.isCoroutine = false) (hgen : (fn i).scope.isGenerator = false) (hk : (fn i).scope.kind = .function)
    (hcell : ∀ x ∈ (fn i).scope.names, x.2 ≠ .cell) :
    wpAny (model prog w) A (call (.ref a) args) (Ret s R P) NoE s :=
  enterFn G i hA hR hx ha hi hbind hloc (fun L cd s₁ F g A' => wpAny_mono (h L cd s₁ F g A') (fun f s' q => by cases f <;> exact q) fun _ _ q => q) hco hgen hk hcell
end

/-! ## displays -/
noncomputable def IsPairC (h : Heap) (v : Value) (p : Nat × List Nat) : Prop := ∃ T t u, v = .ref T ∧ h.IsTuple T #[.int (p.1 : Int) t, .str ⟨p.2.toArray⟩ u]
noncomputable def IsFamV (h : Heap) (v : Value) (f : Fam) : Prop :=
  ∃ T t u l vs, v = .ref T ∧ h.IsTuple T #[.str ⟨#[f.first]⟩ t, .str ⟨#[f.second]⟩ u, .ref l] ∧ h.IsList l vs ∧ All2 (fun v p => IsPairC h v p) vs.toList f.others
theorem IsPairC.keeps {h h' : Heap} {v : Value} {p : Nat × List Nat} (x : IsPairC h v p) (k : Sub h h') : IsPairC h' v p :=
  let ⟨T, t, u, e, r⟩ := x; ⟨T, t, u, e, isTuple_keeps r k⟩
theorem IsFamV.keeps {h h' : Heap} {v : Value} {f : Fam} (x : IsFamV h v f) (k : Sub h h') : IsFamV h' v f :=
  let ⟨T, t, u, l, vs, e, r, q, a⟩ := x; ⟨T, t, u, l, vs, e, isTuple_keeps r k, isList_keeps q k, All2.mono (fun _ _ y => y.keeps k) a⟩

section
variable {prog : Program} {w : World} {A : Around} {mg mb : Str → Option Value} {s : Shared} {R : Heap} {E : Value → Shared → Prop} {env : Env}

theorem se_Tuple (elts : List Expr) (k : Nat) (p : Pos) (rest : List Expr) (env : Env) : starEach (.Tuple elts k p :: rest) env = (false, eval (.Tuple elts k p) env) :: starEach rest env := rfl
theorem se_List (elts : List Expr) (p : Pos) (rest : List Expr) (env : Env) : starEach (.List elts p :: rest) env = (false, eval (.List elts p) env) :: starEach rest env := rfl
theorem se_Call (f : Expr) (as : List Expr) (ks : List Keyword) (p : Pos) (rest : List Expr) (env : Env) : starEach (.Call f as ks p :: rest) env = (false, eval (.Call f as ks p) env) :: starEach rest env := rfl
theorem se_BinOp (l : Expr) (op : Operator) (r : Expr) (p : Pos) (rest : List Expr) (env : Env) : starEach (.BinOp l op r p :: rest) env = (false, eval (.BinOp l op r p) env) :: starEach rest env := rfl
theorem se_Sub (v sl : Expr) (p : Pos) (rest : List Expr) (env : Env) : starEach (.Subscript v sl p :: rest) env = (false, eval (.Subscript v sl p) env) :: starEach rest env := rfl
theorem se_UnaryOp (op : UnaryOp) (v : Expr) (p : Pos) (rest : List Expr) (env : Env) : starEach (.UnaryOp op v p :: rest) env = (false, eval (.UnaryOp op v p) env) :: starEach rest env := rfl
theorem se_IfExp (t b o : Expr) (p : Pos) (rest : List Expr) (env : Env) : starEach (.IfExp t b o p :: rest) env = (false, eval (.IfExp t b o p) env) :: starEach rest env := rfl

theorem AssignSub {elts : List Expr} {k : Nat} {tpos vp pos : Pos} {v sl : Expr} {Q : Flow → Shared → Prop}
    (h : wpAny (model prog w) A (eval (.Subscript v sl vp) env) (fun v s₁ => wpAny (model prog w) A (assign (.Tuple elts k tpos) env v) (fun _ => Q .next) E s₁) E s) :
    wpAny (model prog w) A (exec (.Assign [.Tuple elts k tpos] (.Subscript v sl vp) pos) env) Q E s := Assign_Tuple h rfl rfl
theorem AssignCall {elts as : List Expr} {k : Nat} {tpos vp pos : Pos} {f : Expr} {ks : List Keyword} {Q : Flow → Shared → Prop}
    (h : wpAny (model prog w) A (eval (.Call f as ks vp) env) (fun v s₁ => wpAny (model prog w) A (assign (.Tuple elts k tpos) env v) (fun _ => Q .next) E s₁) E s) :
    wpAny (model prog w) A (exec (.Assign [.Tuple elts k tpos] (.Call f as ks vp) pos) env) Q E s := Assign_Tuple h rfl rfl

theorem pairC {c : Int} {x : Str} {k1 k2 k : Nat} {p1 p2 p : Pos} {q : Nat × List Nat} {Q : Value → Shared → Prop} (h : ∀ v h' tk, Sub s.heap h' → IsPairC h' v q → Q v { s with heap := h', toks := tk })
    (hc : c = (q.1 : Int) := by rfl) (hx : x = ⟨q.2.toArray⟩ := by rfl) :
    wpAny (model prog w) A (eval (.Tuple [.Constant (.int c) k1 p1, .Constant (.str x) k2 p2] k p) env) Q E s := by
  subst hc hx
  refine Tuple_ (args_cons (wpAny_Constant_int (args_cons (wpAny_Constant_str (args_nil (wpAny_newTuple ?_))))))
  exact h _ _ _ (sub_push _ _) ⟨_, _, _, rfl, _, Heap.get?_push_size _ rfl, rfl, _, rfl⟩

theorem famRow {a b : Str} {k1 k2 k : Nat} {p1 p2 p3 p : Pos} {e1 e2 e3 : Expr} {f : Fam} {Q : Value → Shared → Prop} {q1 q2 q3 : Nat × List Nat} (hq : f.others = [q1, q2, q3])
    (h1 : ∀ (s : Shared) (Q : Value → Shared → Prop), (∀ v h' tk, Sub s.heap h' → IsPairC h' v q1 → Q v { s with heap := h', toks := tk }) → wpAny (model prog w) A (eval e1 env) Q E s)
    (h2 : ∀ (s : Shared) (Q : Value → Shared → Prop), (∀ v h' tk, Sub s.heap h' → IsPairC h' v q2 → Q v { s with heap := h', toks := tk }) → wpAny (model prog w) A (eval e2 env) Q E s)
    (h3 : ∀ (s : Shared) (Q : Value → Shared → Prop), (∀ v h' tk, Sub s.heap h' → IsPairC h' v q3 → Q v { s with heap := h', toks := tk }) → wpAny (model prog w) A (eval e3 env) Q E s)
    (h : ∀ v h' tk, Sub s.heap h' → IsFamV h' v f → Q v { s with heap := h', toks := tk })
    (hs1 : starEach [e1, e2, e3] env = (false, eval e1 env) :: starEach [e2, e3] env := by exact se_Tuple ..) (hs2 : starEach [e2, e3] env = (false, eval e2 env) :: starEach [e3] env := by exact se_Tuple ..) (hs3 : starEach [e3] env = (false, eval e3 env) :: starEach [] env := by exact se_Tuple ..)
    (ha : a = ⟨#[f.first]⟩ := by rfl) (hb : b = ⟨#[f.second]⟩ := by rfl) :
    wpAny (model prog w) A (eval (.Tuple [.Constant (.str a) k1 p1, .Constant (.str b) k2 p2, .List [e1, e2, e3] p3] k p) env) Q E s := by
  subst ha hb
  refine Tuple_ (args_cons (wpAny_Constant_str (args_cons (wpAny_Constant_str (args_cons (wpAny_List ?_) (se_List ..))))))
  refine args_cons (h1 _ _ fun v1 g1 t1 K1 P1 => args_cons (h2 _ _ fun v2 g2 t2 K2 P2 => args_cons (h3 _ _ fun v3 g3 t3 K3 P3 => args_nil ⟨by show 3 ≤ sizeLine; decide, args_nil (wpAny_newTuple ?_)⟩) hs3) hs2) hs1
  have K4 : Sub g3 (g3.push { cls := .type "list", data := .seq [v1, v2, v3].toArray }) := sub_push _ _
  have K5 : Sub (g3.push { cls := .type "list", data := .seq [v1, v2, v3].toArray }) _ := sub_push _ { cls := .type "tuple", data := .seq #[Value.str ⟨#[f.first]⟩ s.toks, .str ⟨#[f.second]⟩ (s.toks + 1), .ref g3.objs.size] }
  refine h _ _ _ (((K1.trans K2).trans K3).trans (K4.trans K5)) ⟨_, _, _, g3.objs.size, #[v1, v2, v3], rfl, ⟨_, Heap.get?_push_size _ rfl, rfl, _, rfl⟩, ⟨_, K5 _ _ (Heap.get?_push_size _ rfl), rfl, _, rfl⟩, ?_⟩
  rw [hq]
  exact ⟨P1.keeps (((K2.trans K3).trans K4).trans K5), P2.keeps ((K3.trans K4).trans K5), P3.keeps (K4.trans K5), trivial⟩

theorem itemL {value slice : Expr} {l : Addr} {items : Array Value} {k : Int} {u : Tok} {x : Value} {Q : Value → Shared → Prop} (hl : s.heap.IsList l items)
    (h0 : 0 ≤ k) (hfit : k < 2 ^ 63) (hx : items[k.toNat]? = some x) (h : Q x s)
    (hs : subscripted slice false (.ref l) (.int k u) = operate [.ref l, .int k u] (getItem (.ref l) (.int k u)) := by with_unfolding_all rfl) :
    wpAny (model prog w) A (subscriptTail value slice (.ref l) (.int k u)) Q E s := item_listR hl h0 hfit hx h hs

noncomputable def IsSW (h : Heap) (v : Value) (p : Nat × List Nat) : Prop := ∃ T t u, v = .ref T ∧ h.IsTuple T #[.str ⟨#[p.1]⟩ t, .str ⟨p.2.toArray⟩ u]

theorem Ret.tuple {s₀ s : Shared} {R R₀ : Heap} {X : List Addr} {L : Addr} {m : Str → Option Value} {vs : Array Value} {tk : Nat} (F : Fm s₀ R X L m s) (g : Grow R₀ R s₀.heap) {P : Heap → Value → Prop}
    (hP : ∀ R' T, Sub R R' → R'.IsTuple T vs → P R' (.ref T)) : Ret s₀ R₀ P (.ref s.heap.objs.size) { s with heap := s.heap.push { cls := .type "tuple", data := .seq vs }, toks := tk } := by
  have F' := F.push (tk := tk) { cls := .type "tuple", data := .seq vs }
  refine Classical.byContradiction fun hNo => ?_
  obtain ⟨R', G', S', h'⟩ := Grow.add (h := s₀.heap) F'.has (Heap.get?_push_size _ rfl) (F.none_of (get_size_none _)).2
  refine hNo ?_
  clear hNo
  exact ⟨F'.step, R', g.trans G' (Sub.refl _), S', hP R' _ G'.sub ⟨_, h', rfl, _, rfl⟩⟩

theorem isList_mv {h h' : Heap} {L l : Addr} {vs : Array Value} {m : Str → Option Value} (x : h.IsList l vs) (n : h.Ns L m) (k : KB [L] h h') : h'.IsList l vs := by
  refine Classical.byContradiction fun hNo => ?_
  obtain ⟨o, ho, hc, k', hd⟩ := x
  refine hNo ?_
  clear hNo
  refine ⟨o, k l o ?_ ho, hc, k', hd⟩
  simp only [List.mem_singleton]
  rintro rfl
  refine Classical.byContradiction fun hNo => ?_
  obtain ⟨o', es, ep, ho', hd', _⟩ := n
  refine hNo ?_
  clear hNo
  rw [ho] at ho'; cases ho'; rw [hd] at hd'; cases hd'
theorem isTuple_mv {h h' : Heap} {L l : Addr} {vs : Array Value} {m : Str → Option Value} (x : h.IsTuple l vs) (n : h.Ns L m) (k : KB [L] h h') : h'.IsTuple l vs := by
  refine Classical.byContradiction fun hNo => ?_
  obtain ⟨o, ho, hc, k', hd⟩ := x
  refine hNo ?_
  clear hNo
  refine ⟨o, k l o ?_ ho, hc, k', hd⟩
  simp only [List.mem_singleton]
  rintro rfl
  refine Classical.byContradiction fun hNo => ?_
  obtain ⟨o', es, ep, ho', hd', _⟩ := n
  refine hNo ?_
  clear hNo
  rw [ho] at ho'; cases ho'; rw [hd] at hd'; cases hd'
theorem pick4 {P : Nat → Value → Prop} {v0 v1 v2 v3 : Value} (p0 : P 0 v0) (p1 : P 1 v1) (p2 : P 2 v2) (p3 : P 3 v3) : ∀ i, i < 4 → ∃ v, (#[v0, v1, v2, v3] : Array Value)[i]? = some v ∧ P i v
  | 0, _ => ⟨v0, rfl, p0⟩
  | 1, _ => ⟨v1, rfl, p1⟩
  | 2, _ => ⟨v2, rfl, p2⟩
  | 3, _ => ⟨v3, rfl, p3⟩

theorem fam_len : ∀ i, i < 4 → (fam i).others.length = 3 := by decide
theorem fam_others (i : Nat) (hi : i < 4) (j : Nat) (hj : j < 9) (h : j > 5) : (fam i).others[j - 6]? = some (signP i j) := by
  have := fam_len i hi
  rw [signP, if_pos h, List.getD_eq_getElem?_getD, List.getElem?_eq_getElem (by omega)]; rfl
theorem signP_letter (i j : Nat) (h : ¬ j > 5) : signP i j = ((((famLetter i j : Nat) : Int) + offs (j / 2)).toNat, [famLetter i j]) := by rw [signP, if_neg h]
theorem sign_small : ∀ i, i < 4 → ∀ j, j < 9 → (signP i j).1 ≤ 0x10FFFF := by decide
theorem fdiv2 (j : Nat) : (j : Int).fdiv 2 = ((j / 2 : Nat) : Int) := by rw [Int.fdiv_eq_ediv_of_nonneg _ (by decide)]; omega
theorem fmod2 (j : Nat) : (((j : Int).fmod 2 == 1) : Bool) = decide (j % 2 = 1) := by
  rw [Int.fmod_eq_emod_of_nonneg _ (by decide)]
  by_cases h : j % 2 = 1
  · simp [h]; omega
  · simp [h]; omega
theorem pick3 {a b c : Tok} : ∀ j : Nat, j < 6 → ∃ tk, (#[Value.int 0 a, .int (-32) b, .int 119711 c] : Array Value)[((j : Int).fdiv 2).toNat]? = some (.int (offs (j / 2)) tk)
  | 0, _ => ⟨a, rfl⟩
  | 1, _ => ⟨a, rfl⟩
  | 2, _ => ⟨b, rfl⟩
  | 3, _ => ⟨b, rfl⟩
  | 4, _ => ⟨c, rfl⟩
  | 5, _ => ⟨c, rfl⟩
theorem letter_ok : ∀ i, i < 4 → ∀ j, j < 9 → ¬ j > 5 → 0 ≤ (((famLetter i j : Nat) : Int) + offs (j / 2)) ∧ (((famLetter i j : Nat) : Int) + offs (j / 2)) ≤ 0x10FFFF := by decide

set_option maxHeartbeats 400000 in
theorem sign_rest (G : GE prog w mg mb R) {s₀ : Shared} {L a : Addr} {cd : Value} {A : Around} (A' : AOk A 3) {i j : Nat} (hi : i < 4) (hj : j < 9) {tj t u : Tok} {m : Str → Option Value} {l : Addr} {vs : Array Value}
    (F : Fm s₀ R [] L m s) (h1 : m "first" = some (.str ⟨#[(fam i).first]⟩ t)) (h2 : m "second" = some (.str ⟨#[(fam i).second]⟩ u)) (h3 : m "others" = some (.ref l)) (h4 : m "place" = some (.int (j : Int) tj))
    (hl : s.heap.IsList l vs) (hall : All2 (fun v p => IsPairC s.heap v p) vs.toList (fam i).others) :
    wpAny (model prog w) A (execs ((fn 14).body.drop 1) (envOf (fn 14).name (fn 14).scope L a cd))
      (fun f s' => Ret s₀ R (fun R' v => IsSW R' v (signP i j)) (retV f) s') NoE s := by
  refine wpAny_execs_cons (wpAny_If (wpAny_isTrue_Compare1 (nmL F h4 (wpAny_Constant_int (PySem.P.gt_int (wpAny_truthy_bool ?_))))))
  have F := F.tok (tk := s.toks + 1)
  by_cases h5 : j > 5
  · have e : decide ((j : Int) > 5) = true := by simp; omega
    rw [e]
    refine wp_if_t rfl ?_
    refine Classical.byContradiction fun hNo => ?_
    obtain ⟨v, hv, hp⟩ := All2.get' hall (fam_others i hi j hj h5)
    obtain ⟨T, tc, tw, rfl, hT⟩ := hp
    refine hNo ?_
    clear hNo
    refine wpAny_execs_cons ?_
    refine AssignSub ?_
    refine Subscript_ ?_
    refine nmL F h3 ?_
    refine wpAny_BinOp (nmL F h4 (wpAny_Constant_int (PySem.P.sub_int ?_)))
    refine itemL (l := l) (items := vs) hl (by omega) (by omega) (x := .ref T) ?_ ?_
    · rw [show ((j : Int) - 6).toNat = j - 6 by omega]; simpa using hv
    have F₁ := F.tok (tk := s.toks + 1 + 1 + 1)
    refine assignTup (k := 0) (xs := [("code", ⟨81, 8, 81, 12⟩), ("word", ⟨81, 14, 81, 18⟩)]) A'.hh F₁ hT rfl (by simp only [List.mem_cons, List.not_mem_nil, or_false]; rintro x (rfl | rfl) <;> rfl) rfl rfl fun s₂ F₂ M₂ => ?_
    refine wpAny_execs_cons ?_
    refine wpAny_Return_some ?_
    refine Tuple_ ?_
    refine args_cons (Call_ (nmB F₂ G.g G.b G.chr.1 G.chr.2 (callWith_builtin rfl (evalArgs_plain (args_cons (nmL F₂ rfl (args_nil (P.chr_of_int ?_ ?_))))))))
    · have := sign_small i hi j hj; simp; omega
    refine args_cons (nmL F₂.tok rfl (args_nil (wpAny_newTuple ?_)))
    exact Ret.tuple F₂.tok (Grow.refl _ _) fun R' T' _ hT' => ⟨T', _, _, rfl, by simpa using hT'⟩
  · have e : decide ((j : Int) > 5) = false := by simp; omega
    rw [e]
    refine wp_if_f rfl ?_
    refine wpAny_execs_nil ?_
    have hl0 := letter_ok i hi j hj h5
    have rest : ∀ (s₂ : Shared) tl, Fm s₀ R [] L (fun y => if y = "letter" then some (.str ⟨#[famLetter i j]⟩ tl) else m y) s₂ →
        wpAny (model prog w) A (execs ((fn 14).body.drop 3) (envOf (fn 14).name (fn 14).scope L a cd))
          (fun f s' => Ret s₀ R (fun R' v => IsSW R' v (signP i j)) (retV f) s') NoE s₂ := fun s₂ tl F₂ => by
      refine wpAny_execs_cons ?_
      refine wpAny_Return_some ?_
      refine Tuple_ ?_
      refine args_cons ?_ ?_
      case refine_2 => rfl
      refine Call_ (nmB F₂ G.g G.b G.chr.1 G.chr.2 (PyProof.Rows.callWith_builtin1 ?_ ?_ ?_))
      case refine_2 => rfl
      case refine_3 => rfl
      refine args_cons ?_ ?_
      case refine_2 => rfl
      refine wpAny_BinOp ?_
      refine Call_ (nmB F₂ G.g G.b G.ord.1 G.ord.2 (callWith_builtin rfl (evalArgs_plain (args_cons (nmL F₂ rfl (args_nil (P.ord_of_char ?_)))))))
      refine Subscript_ ?_
      refine wpAny_List ?_
      refine args_cons ?_ ?_
      case refine_2 => rfl
      refine wpAny_Constant_int ?_
      refine args_cons ?_ ?_
      case refine_2 => rfl
      refine wpAny_UnaryOp (wpAny_Constant_int (P.neg_int ?_))
      refine args_cons ?_ ?_
      case refine_2 => rfl
      refine wpAny_Constant_int (args_nil ⟨by show 3 ≤ sizeLine; decide, ?_⟩)
      have F₃ := F₂.push (tk := s₂.toks + 1 + 1 + 1 + 1 + 1) { cls := .type "list", data := .seq [Value.int 0 (s₂.toks + 1), .int (-32) (s₂.toks + 1 + 1 + 1), .int 119711 (s₂.toks + 1 + 1 + 1 + 1)].toArray }
      have h4' : (fun y => if y = ("letter" : Str) then some (Value.str ⟨#[famLetter i j]⟩ tl) else m y) "place" = some (.int (j : Int) tj) := h4
      refine wpAny_BinOp (nmL F₃ h4' (wpAny_Constant_int (PyProof.Rows.floordiv_int (by decide) ?_)))
      obtain ⟨to, ho⟩ := pick3 (a := s₂.toks + 1) (b := s₂.toks + 1 + 1 + 1) (c := s₂.toks + 1 + 1 + 1 + 1) j (by omega)
      refine itemL (items := #[Value.int 0 (s₂.toks + 1), .int (-32) (s₂.toks + 1 + 1 + 1), .int 119711 (s₂.toks + 1 + 1 + 1 + 1)]) ⟨_, Heap.get?_push_size _ rfl, rfl, _, rfl⟩ (by rw [fdiv2]; omega) (by rw [fdiv2]; omega) ho ?_
      refine wpAny_add_int ?_
      refine args_nil (P.chr_of_int ?_ ?_)
      · simp; omega
      refine args_cons ?_ ?_
      case refine_2 => rfl
      have F₄ := F₃.tok (tk := s₂.toks + 1 + 1 + 1 + 1 + 1 + 1 + 1 + 1 + 1)
      refine nmL F₄ rfl ?_
      refine args_nil (wpAny_newTuple ?_)
      exact Ret.tuple F₄ (Grow.refl _ _) fun R' T' _ hT' => ⟨T', _, _, rfl, by rw [signP_letter i j h5]; exact hT'⟩
    refine wpAny_execs_cons ?_
    refine wpAny_Assign_Name ?_
    refine IfExp_ (wpAny_isTrue_Compare1 (wpAny_BinOp (nmL F h4 (wpAny_Constant_int (PyProof.Rows.mod_int (by decide) (wpAny_Constant_int (PySem.P.eq_int (wpAny_truthy_bool ?_))))))))
    rw [show (((j : Int).fmod 2 == 1) : Bool) = decide (j % 2 = 1) from fmod2 j]
    have F := F.tok (tk := s.toks + 1 + 1 + 1 + 1)
    by_cases h2' : j % 2 = 1
    · have e : famLetter i j = (fam i).second := by rw [famLetter, if_pos h2']
      refine wp_if_t (by simp only [h2', decide_true]) ?_
      refine nmL F h2 (stL F fun s₂ F₂ M₂ => rest s₂ u (by rw [e]; exact F₂))
    · have e : famLetter i j = (fam i).first := by rw [famLetter, if_neg h2']
      refine wp_if_f (by simp only [h2', decide_false]) ?_
      refine nmL F h1 (stL F fun s₂ F₂ M₂ => rest s₂ t (by rw [e]; exact F₂))

set_option maxHeartbeats 400000 in
theorem sign_body (G : GE prog w mg mb R) {s₀ : Shared} {L a : Addr} {cd : Value} {A : Around} (A' : AOk A 3) {i j : Nat} (hi : i < 4) (hj : j < 9) {ti tj : Tok}
    (F : Fm s₀ R [] L (fun x => [(("family" : Str), Value.int (i : Int) ti), ("place", .int (j : Int) tj)].reverse.lookup x) s) :
    wpAny (model prog w) A (execs (fn 14).body (envOf (fn 14).name (fn 14).scope L a cd))
      (fun f s' => Ret s₀ R (fun R' v => IsSW R' v (signP i j)) (retV f) s') NoE s := by
  refine wpAny_execs_cons ?_
  refine AssignSub ?_
  refine Subscript_ ?_
  refine wpAny_List ?_
  refine args_cons ?_ ?_
  case refine_2 => rfl
  with_reducible refine famRow (f := fam 0) (q1 := (223, [115, 115])) (q2 := (64261, [115, 116])) (q3 := (383, [115])) ?_ ?_ ?_ ?_ (fun v0 h0 t0 K0 P0 => ?_) ?_ ?_ ?_ ?_ ?_
  case refine_1 => rfl
  case refine_2 => exact fun s Q h => pairC h
  case refine_3 => exact fun s Q h => pairC h
  case refine_4 => exact fun s Q h => pairC h
  case refine_6 => rfl
  case refine_7 => rfl
  case refine_8 => rfl
  case refine_9 => rfl
  case refine_10 => rfl
  refine args_cons ?_ ?_
  case refine_2 => rfl
  with_reducible refine famRow (f := fam 1) (q1 := (64256, [102, 102])) (q2 := (64257, [102, 105])) (q3 := (8497, [102])) ?_ ?_ ?_ ?_ (fun v1 h1 t1 K1 P1 => ?_) ?_ ?_ ?_ ?_ ?_
  case refine_1 => rfl
  case refine_2 => exact fun s Q h => pairC h
  case refine_3 => exact fun s Q h => pairC h
  case refine_4 => exact fun s Q h => pairC h
  case refine_6 => rfl
  case refine_7 => rfl
  case refine_8 => rfl
  case refine_9 => rfl
  case refine_10 => rfl
  refine args_cons ?_ ?_
  case refine_2 => rfl
  with_reducible refine famRow (f := fam 2) (q1 := (13259, [104, 112])) (q2 := (13271, [112, 104])) (q3 := (8473, [112])) ?_ ?_ ?_ ?_ (fun v2 h2 t2 K2 P2 => ?_) ?_ ?_ ?_ ?_ ?_
  case refine_1 => rfl
  case refine_2 => exact fun s Q h => pairC h
  case refine_3 => exact fun s Q h => pairC h
  case refine_4 => exact fun s Q h => pairC h
  case refine_6 => rfl
  case refine_7 => rfl
  case refine_8 => rfl
  case refine_9 => rfl
  case refine_10 => rfl
  refine args_cons ?_ ?_
  case refine_2 => rfl
  with_reducible refine famRow (f := fam 3) (q1 := (13261, [107, 107])) (q2 := (13262, [107, 109])) (q3 := (119974, [107])) ?_ ?_ ?_ ?_ (fun v3 h3 t3 K3 P3 => ?_) ?_ ?_ ?_ ?_ ?_
  case refine_1 => rfl
  case refine_2 => exact fun s Q h => pairC h
  case refine_3 => exact fun s Q h => pairC h
  case refine_4 => exact fun s Q h => pairC h
  case refine_6 => rfl
  case refine_7 => rfl
  case refine_8 => rfl
  case refine_9 => rfl
  case refine_10 => rfl
  refine args_nil ⟨by show 4 ≤ sizeLine; decide, ?_⟩
  have F₁ := F.keep (tk := t3) (((K0.trans K1).trans K2).trans K3)
  have F₂ := F₁.push (tk := t3) { cls := .type "list", data := .seq [v0, v1, v2, v3].toArray }
  have K4 : Sub h3 (h3.push { cls := .type "list", data := .seq [v0, v1, v2, v3].toArray }) := sub_push _ _
  have hpick' := pick4 (P := fun i v => IsFamV (h3.push { cls := .type "list", data := .seq [v0, v1, v2, v3].toArray }) v (fam i)) (P0.keeps (((K1.trans K2).trans K3).trans K4)) (P1.keeps ((K2.trans K3).trans K4)) (P2.keeps (K3.trans K4)) (P3.keeps K4) i hi
  refine Classical.byContradiction fun hNo => ?_
  obtain ⟨v, hv, T, t, u, l, vs, rfl, hT, hl, hall⟩ := hpick'
  refine hNo ?_
  clear hNo
  refine nmL F₂ rfl (itemL (l := h3.objs.size) (items := #[v0, v1, v2, v3]) ⟨_, Heap.get?_push_size _ rfl, rfl, _, rfl⟩ (by omega) (by omega) (by simpa using hv) ?_)
  refine assignTup (k := 0) (xs := [("first", ⟨79, 4, 79, 9⟩), ("second", ⟨79, 11, 79, 17⟩), ("others", ⟨79, 19, 79, 25⟩)]) A'.hh F₂ hT rfl (by simp only [List.mem_cons, List.not_mem_nil, or_false]; rintro x (rfl | rfl | rfl) <;> rfl) rfl rfl fun s₃ F₃ M₃ => ?_
  clear K0 K1 K2 K3 K4 P0 P1 P2 P3
  exact sign_rest G A' hi hj F₃ rfl rfl rfl rfl (isList_mv hl F₂.ns M₃.kb) (All2.mono (fun _ _ y => let ⟨T, t, u, e, r⟩ := y; ⟨T, t, u, e, isTuple_mv r F₂.ns M₃.kb⟩) hall)

theorem sign_spec (G : GE prog w mg mb R) (hA : AOk A 4) (hR : Sub R s.heap) (a : Addr) (ha : mg "_law_sign" = some (.ref a)) {i j : Nat} (hi : i < 4) (hj : j < 9) {ti tj : Tok} :
    wpAny (model prog w) A (call (.ref a) [.int (i : Int) ti, .int (j : Int) tj]) (Ret s R (fun R' v => IsSW R' v (signP i j))) NoE s := by
  refine enterI G 14 (k := 3) (binds := [("family", .int (i : Int) ti), ("place", .int (j : Int) tj)]) hA hR rfl ha (by simp) ?_ ?_ (fun L cd s₁ F _ A' => ?_) rfl rfl rfl (by decide +kernel)
  · exact fun _ _ _ => rfl
  · rfl
  · have h := @sign_body prog w mg mb s₁ R G s L a cd _ A' i j hi hj ti tj F
    with_reducible exact h
end
end Mine
end
section
open PySem PySem.W PySem.Calls PyProof.Rows
set_option maxRecDepth 100000
set_option linter.unusedVariables false
set_option linter.unusedSimpArgs false
namespace Mine

structure Dr where
  ahead : List Nat
  sign : Nat
  word : List Nat
  und : Nat
noncomputable def hiddenP (n : Nat) : Nat := [173, 847, 8203, 65039].getD (n / 72 % 4) 0
noncomputable def aheadP (n : Nat) : List Nat := [[], [hiddenP n], [34, 41, 34], [92, 40]].getD (n / 18 % 4) []
noncomputable def drawnP (i n : Nat) : Dr := ⟨aheadP n, (signP i (n / 2 % 9)).1, (signP i (n / 2 % 9)).2, n % 2⟩
noncomputable def IsDr (h : Heap) (v : Value) (d : Dr) : Prop := ∃ T t1 t2 t3 t4, v = .ref T ∧ h.IsTuple T #[.str ⟨d.ahead.toArray⟩ t1, .str ⟨#[d.sign]⟩ t2, .str ⟨d.word.toArray⟩ t3, .int (d.und : Int) t4]
theorem IsDr.keeps {h h' : Heap} {v : Value} {d : Dr} (x : IsDr h v d) (k : Sub h h') : IsDr h' v d :=
  let ⟨T, t1, t2, t3, t4, e, r⟩ := x; ⟨T, t1, t2, t3, t4, e, isTuple_keeps r k⟩

theorem fdivN (n k : Nat) (hk : 0 < k) : (n : Int).fdiv (k : Int) = ((n / k : Nat) : Int) := by rw [Int.fdiv_eq_ediv_of_nonneg _ (by omega)]; rfl
theorem fmodN (n k : Nat) (hk : 0 < k) : (n : Int).fmod (k : Int) = ((n % k : Nat) : Int) := by rw [Int.fmod_eq_emod_of_nonneg _ (by omega)]; rfl

section
variable {prog : Program} {w : World} {A : Around} {mg mb : Str → Option Value} {s : Shared} {R : Heap} {E : Value → Shared → Prop} {env : Env}

/-- n // a % b -/
theorem divMod {s₀ : Shared} {X : List Addr} {L : Addr} {m : Str → Option Value} {x : Str} {a b n : Nat} {t : Tok} {p1 p2 p3 p4 p5 : Pos} {k1 k2 : Nat} {Q : Value → Shared → Prop} (F : Fm s₀ R X L m s) (hm : m x = some (.int (n : Int) t)) (ha : 0 < a) (hb : 0 < b)
    (h : ∀ tk tt, Q (.int ((n / a % b : Nat) : Int) tt) { s with toks := tk })
    (hl : env.kindOf x = some .local) (hk : env.scope.kind = .function) (hL : env.locals = L) (hd : (x == ("__debug__" : Str)) = false) (hp : a.log2 < 500) :
    wpAny (model prog w) A (eval (.BinOp (.BinOp (.Name x p1) .FloorDiv (.Constant (.int (a : Int)) k1 p2) p3) .Mod (.Constant (.int (b : Int)) k2 p4) p5) env) Q NoE s := by
  have hpy : Builtin.divisionGoesByPylong (n : Int) (a : Int) = false := PyProof.noPylong_of_log2 (by rw [Int.natAbs_natCast]; omega)
  refine wpAny_BinOp (wpAny_BinOp (nmL F hm (wpAny_Constant_int (PyProof.Rows.floordiv_int (by omega) ?_ (Or.inl hpy))) hl hk hL hd))
  rw [fdivN n a ha]
  refine wpAny_Constant_int (PyProof.Rows.mod_int' (by omega) ?_)
  rw [fmodN _ b hb]
  exact h _ _

theorem pickH {a b c d : Tok} : ∀ j : Nat, j < 4 → ∃ tk, (#[Value.int 173 a, .int 847 b, .int 8203 c, .int 65039 d] : Array Value)[j]? = some (.int (([173, 847, 8203, 65039].getD j 0 : Nat) : Int) tk)
  | 0, _ => ⟨a, rfl⟩
  | 1, _ => ⟨b, rfl⟩
  | 2, _ => ⟨c, rfl⟩
  | 3, _ => ⟨d, rfl⟩
theorem pickA {x : Nat} {a b c d : Tok} : ∀ j : Nat, j < 4 → ∃ tk, (#[Value.str ("" : Str) a, .str ⟨#[x]⟩ b, .str ("\")\"" : Str) c, .str ("\\(" : Str) d] : Array Value)[j]? = some (.str ⟨([[], [x], [34, 41, 34], [92, 40]].getD j [] : List Nat).toArray⟩ tk)
  | 0, _ => ⟨a, rfl⟩
  | 1, _ => ⟨b, rfl⟩
  | 2, _ => ⟨c, rfl⟩
  | 3, _ => ⟨d, rfl⟩
theorem hidden_ok (n : Nat) : hiddenP n ≤ 0x10FFFF := by
  have : n / 72 % 4 < 4 := Nat.mod_lt _ (by decide)
  unfold hiddenP
  generalize n / 72 % 4 = j at this
  match j, this with
  | 0, _ => decide
  | 1, _ => decide
  | 2, _ => decide
  | 3, _ => decide

set_option maxHeartbeats 400000 in
theorem drawn_rest {R₀ : Heap} (G : GE prog w mg mb R) {s₀ : Shared} {L a : Addr} {cd : Value} {A : Around} (A' : AOk A 6) {i n : Nat} {tj t u : Tok} {m : Str → Option Value} (F : Fm s₀ R [] L m s) (h1 : m "number" = some (.int (n : Int) tj))
    (h2 : m "sign" = some (.str ⟨#[(drawnP i n).sign]⟩ t)) (h3 : m "word" = some (.str ⟨(drawnP i n).word.toArray⟩ u)) (GR : Grow R₀ R s₀.heap) :
    wpAny (model prog w) A (execs ((fn 15).body.drop 1) (envOf (fn 15).name (fn 15).scope L a cd))
      (fun f s' => Ret s₀ R₀ (fun R' v => IsDr R' v (drawnP i n)) (retV f) s') NoE s := by
  refine wpAny_execs_cons ?_
  refine wpAny_Assign_Name ?_
  refine Call_ (nmB F G.g G.b G.chr.1 G.chr.2 (PyProof.Rows.callWith_builtin1 ?_ ?_ ?_))
  case refine_2 => rfl
  case refine_3 => rfl
  refine args_cons ?_ ?_
  case refine_2 => rfl
  refine Subscript_ ?_
  refine wpAny_List (args_cons (wpAny_Constant_int (args_cons (wpAny_Constant_int (args_cons (wpAny_Constant_int (args_cons (wpAny_Constant_int (args_nil ⟨by show 4 ≤ sizeLine; decide, ?_⟩)))))))))
  have F₁ := F.push (tk := s.toks + 1 + 1 + 1 + 1) { cls := .type "list", data := .seq [Value.int 173 s.toks, .int 847 (s.toks + 1), .int 8203 (s.toks + 1 + 1), .int 65039 (s.toks + 1 + 1 + 1)].toArray }
  refine divMod (n := n) (a := 72) (b := 4) F₁ h1 (by decide) (by decide) (fun tk tt => ?_) rfl rfl rfl rfl (by decide)
  obtain ⟨to, ho⟩ := pickH (a := s.toks) (b := s.toks + 1) (c := s.toks + 1 + 1) (d := s.toks + 1 + 1 + 1) (n / 72 % 4) (Nat.mod_lt _ (by decide))
  refine itemL (l := s.heap.objs.size) ⟨_, Heap.get?_push_size _ rfl, rfl, _, rfl⟩ (by omega) (by omega) ho ?_
  refine args_nil (P.chr_of_int ?_ ?_)
  · have hh : (([173, 847, 8203, 65039].getD (n / 72 % 4) 0 : Nat)) ≤ 0x10FFFF := hidden_ok n
    generalize ([173, 847, 8203, 65039].getD (n / 72 % 4) 0 : Nat) = z at hh
    simp; omega
  have F₂ := F₁.tok (tk := tk + 1)
  refine stL F₂ fun s₃ F₃ M₃ => ?_
  refine wpAny_execs_cons ?_
  refine wpAny_Assign_Name ?_
  refine Subscript_ ?_
  refine wpAny_List (args_cons (wpAny_Constant_str (args_cons (nmL F₃.tok rfl (args_cons (wpAny_Constant_str (args_cons (wpAny_Constant_str (args_nil ⟨by show 4 ≤ sizeLine; decide, ?_⟩)))))))))
  have F₄ := F₃.push (tk := s₃.toks + 1 + 1 + 1) { cls := .type "list", data := .seq [Value.str ("" : Str) s₃.toks, .str ⟨#[hiddenP n]⟩ tk, .str ("\")\"" : Str) (s₃.toks + 1), .str ("\\(" : Str) (s₃.toks + 1 + 1)].toArray }
  refine divMod (n := n) (a := 18) (b := 4) F₄ h1 (by decide) (by decide) (fun tk' tt' => ?_) rfl rfl rfl rfl (by decide)
  obtain ⟨to', ho'⟩ := pickA (x := hiddenP n) (a := s₃.toks) (b := tk) (c := s₃.toks + 1) (d := s₃.toks + 1 + 1) (n / 18 % 4) (Nat.mod_lt _ (by decide))
  refine itemL (l := s₃.heap.objs.size) ⟨_, Heap.get?_push_size _ rfl, rfl, _, rfl⟩ (by omega) (by omega) ho' ?_
  refine stL (F₄.tok (tk := tk')) fun s₅ F₅ M₅ => ?_
  refine wpAny_execs_cons ?_
  refine wpAny_Return_some ?_
  refine Tuple_ (args_cons (nmL F₅ rfl (args_cons (nmL F₅ h2 (args_cons (nmL F₅ h3 (args_cons (wpAny_BinOp (nmL F₅ h1 (wpAny_Constant_int (PyProof.Rows.mod_int' (by decide) ?_)))))))))))
  rw [show (n : Int).fmod 2 = ((n % 2 : Nat) : Int) from fmodN n 2 (by decide)]
  refine args_nil (wpAny_newTuple ?_)
  exact Ret.tuple (F₅.tok (tk := s₅.toks + 1 + 1)) GR fun R' T' _ hT' => ⟨T', _, _, _, _, rfl, hT'⟩

set_option maxHeartbeats 400000 in
theorem drawn_body (G : GE prog w mg mb R) {s₀ : Shared} {L a : Addr} {cd : Value} {A : Around} (A' : AOk A 6) {i n : Nat} (hi : i < 4) {ti tj : Tok}
    (F : Fm s₀ R [] L (fun x => [(("number" : Str), Value.int (n : Int) tj), ("family", Value.int (i : Int) ti)].reverse.lookup x) s) :
    wpAny (model prog w) A (execs (fn 15).body (envOf (fn 15).name (fn 15).scope L a cd))
      (fun f s' => Ret s₀ R (fun R' v => IsDr R' v (drawnP i n)) (retV f) s') NoE s := by
  refine wpAny_execs_cons ?_
  refine AssignCall ?_
  refine callF F G.g (G.fns 14 (by simp)) rfl ?_
  refine args_cons (nmL F rfl ?_)
  refine args_cons (divMod (n := n) (a := 2) (b := 9) F rfl (by decide) (by decide) (fun tk tt => ?_) rfl rfl rfl rfl (by decide))
  refine args_nil ⟨F.has, fun a' ha' => ?_⟩
  have F := F.tok (tk := tk)
  refine wpAny_mono (sign_spec G (A'.le (by omega)) F.has a' ha' hi (Nat.mod_lt (n / 2) (by decide))) (fun v s₁ h₁ => ?_) fun _ _ q => q
  refine Classical.byContradiction fun hNo => ?_
  obtain ⟨st, R', G', S', T, t, u, rfl, hT⟩ := h₁
  refine hNo ?_
  clear hNo
  have F₁ := F.call st G' S' (by simp)
  have GG := G.keeps G'.sub
  refine assignTup (k := 0) (xs := [("sign", ⟨86, 4, 86, 8⟩), ("word", ⟨86, 10, 86, 14⟩)]) A'.hh F₁ (isTuple_keeps hT F₁.has) rfl (by simp only [List.mem_cons, List.not_mem_nil, or_false]; rintro x (rfl | rfl) <;> rfl) rfl rfl fun s₂ F₂ M₂ => ?_
  exact drawn_rest GG A' F₂ rfl rfl rfl (G'.back F.step.sub)

theorem drawn_spec (G : GE prog w mg mb R) (hA : AOk A 7) (hR : Sub R s.heap) (a : Addr) (ha : mg "_law_drawn" = some (.ref a)) {i n : Nat} (hi : i < 4) {ti tj : Tok} :
    wpAny (model prog w) A (call (.ref a) [.int (n : Int) tj, .int (i : Int) ti]) (Ret s R (fun R' v => IsDr R' v (drawnP i n))) NoE s := by
  refine enterI G 15 (k := 6) (binds := [("number", .int (n : Int) tj), ("family", .int (i : Int) ti)]) hA hR rfl ha (by simp) ?_ ?_ (fun L cd s₁ F _ A' => ?_) rfl rfl rfl (by decide +kernel)
  · exact fun _ _ _ => rfl
  · rfl
  · have h := @drawn_body prog w mg mb s₁ R G s L a cd _ A' i n hi ti tj F
    with_reducible exact h
end
end Mine
end
section
open PySem PySem.W PySem.Calls PyProof.Rows
set_option maxRecDepth 100000
set_option linter.unusedVariables false
set_option linter.unusedSimpArgs false
namespace Mine

section
variable {prog : Program} {w : World} {A : Around} {s : Shared} {env : Env}

noncomputable abbrev tests (ifs : List Expr) (cenv : Env) : Sem Bool :=
  forIn ifs true fun c r => if r = true then do let ok ← isTrue c cenv (eval c cenv); pure (ForInStep.yield ok) else pure (ForInStep.yield r)
theorem noE {α : Type} {t : Sem α} {Q : α → Shared → Prop} {E : Value → Shared → Prop} (h : wpAny (model prog w) A t Q NoE s) : wpAny (model prog w) A t Q E s :=
  wpAny_mono h (fun _ _ q => q) fun _ _ f => f.elim

/-- one turn of a comprehension's loop -/
noncomputable def Turn (prog : Program) (w : World) (A : Around) (target : Expr) (ifs : List Expr) (it : Value) (cenv : Env) (Body : (Unit → Shared → Prop) → Shared → Prop) (Done : Shared → Prop) (I : Nat → Shared → Prop) (n : Nat) (s : Shared) : Prop :=
  wpAny (model prog w) A (pyNext it) (fun r s₁ => match r with
    | none => Done s₁
    | some v => wpAny (model prog w) A (letOwnedTupleGo target it v) (fun _ s₁' => wpAny (model prog w) A (assign target cenv v) (fun _ s₂ => wpAny (model prog w) A (tests ifs cenv) (fun ok s₃ =>
        if ok = true then Body (fun _ s₅ => ∃ m, m < n ∧ I m s₅) s₃ else ∃ m, m < n ∧ I m s₃) NoE s₂) NoE s₁') NoE s₁) NoE s

noncomputable abbrev bodyL (prog : Program) (w : World) (A : Around) (elt : Expr) (acc : Value) (cenv : Env) : (Unit → Shared → Prop) → Shared → Prop := fun K s =>
  wpAny (model prog w) A (eval elt cenv) (fun x s₄ => wpAny (model prog w) A (call (.builtin "list.append") [acc, x]) (fun _ s₅ => K () s₅) NoE s₄) NoE s
noncomputable abbrev bodyD (prog : Program) (w : World) (A : Around) (kx vx : Expr) (D : Addr) (cenv : Env) : (Unit → Shared → Prop) → Shared → Prop := fun K s =>
  wpAny (model prog w) A (eval kx cenv) (fun kv s₄ => wpAny (model prog w) A (eval vx cenv) (fun vv s₅ => wpAny (model prog w) A (dictSet D kv vv) (fun _ s₆ => K () s₆) NoE s₅) NoE s₄) NoE s

theorem loopL {elt target iter : Expr} {ifs : List Expr} {scope : Scope} {pos : Pos} {it acc : Value} {cenv : Env} {R : Result → Shared → Prop} (I : Nat → Shared → Prop)
    (turn : ∀ n s, I n s → Turn prog w A target ifs it cenv (bodyL prog w A elt acc cenv) (R (.ok .next)) I n s) (n : Nat) (h : I n s) :
    codeAny (model prog w) A (.compLoop (.ListComp elt [⟨target, iter, ifs, 0⟩] scope pos) 0 it acc cenv) R s := by
  refine codeAny_loop rfl I (fun n s hI => ?_) n h
  show wpAny _ A ((compTurn (.ListComp elt [⟨target, iter, ifs, 0⟩] scope pos) 0 it acc cenv).onRaise (fun x => do noteFrame x cenv; theTreesLotGoes x)) _ _ s
  refine wpAny_noted ?_
  rw [compTurn_list]
  refine wpAny_bind (wpAny_standAt (wpAny_bind (noE (wpAny_mono (turn n s hI) (fun r s₁ h₁ => ?_) fun _ _ f => f))))
  cases r with
  | none => exact wpAny_pure h₁
  | some v =>
    refine wpAny_bind (noE (wpAny_mono h₁ (fun _ s₁' h₁' => ?_) fun _ _ f => f))
    refine wpAny_bind (noE (wpAny_mono h₁' (fun _ s₂ h₂ => ?_) fun _ _ f => f))
    refine wpAny_bind (noE (wpAny_mono h₂ (fun ok s₃ h₃ => ?_) fun _ _ f => f))
    cases ok with
    | false => exact wpAny_pure ⟨rfl, h₃⟩
    | true => exact wpAny_bind (wpAny_bind (noE (wpAny_mono h₃ (fun x s₄ h₄ => wpAny_bind (noE (wpAny_mono h₄ (fun _ s₅ h₅ => wpAny_pure (wpAny_pure ⟨rfl, h₅⟩)) fun _ _ f => f))) fun _ _ f => f)))

theorem loopD {kx vx target iter : Expr} {ifs : List Expr} {scope : Scope} {pos : Pos} {it : Value} {D : Addr} {cenv : Env} {R : Result → Shared → Prop} (I : Nat → Shared → Prop)
    (turn : ∀ n s, I n s → Turn prog w A target ifs it cenv (bodyD prog w A kx vx D cenv) (R (.ok .next)) I n s) (n : Nat) (h : I n s) :
    codeAny (model prog w) A (.compLoop (.DictComp kx vx [⟨target, iter, ifs, 0⟩] scope pos) 0 it (.ref D) cenv) R s := by
  refine codeAny_loop rfl I (fun n s hI => ?_) n h
  show wpAny _ A ((compTurn (.DictComp kx vx [⟨target, iter, ifs, 0⟩] scope pos) 0 it (.ref D) cenv).onRaise (fun x => do noteFrame x cenv; theTreesLotGoes x)) _ _ s
  refine wpAny_noted ?_
  rw [compTurn_dict]
  refine wpAny_bind (wpAny_standAt (wpAny_bind (noE (wpAny_mono (turn n s hI) (fun r s₁ h₁ => ?_) fun _ _ f => f))))
  cases r with
  | none => exact wpAny_pure h₁
  | some v =>
    refine wpAny_bind (noE (wpAny_mono h₁ (fun _ s₁' h₁' => ?_) fun _ _ f => f))
    refine wpAny_bind (noE (wpAny_mono h₁' (fun _ s₂ h₂ => ?_) fun _ _ f => f))
    refine wpAny_bind (noE (wpAny_mono h₂ (fun ok s₃ h₃ => ?_) fun _ _ f => f))
    cases ok with
    | false => exact wpAny_pure ⟨rfl, h₃⟩
    | true => exact wpAny_bind (wpAny_bind (noE (wpAny_mono h₃ (fun kv s₄ h₄ => wpAny_bind (wpAny_holding (noE (wpAny_mono h₄ (fun vv s₅ h₅ => wpAny_bind (wpAny_standAt (wpAny_holding (noE (wpAny_mono h₅ (fun _ s₆ h₆ => wpAny_pure ⟨rfl, h₆⟩) fun _ _ f => f))))) fun _ _ f => f)))) fun _ _ f => f)))

/-- what stands when a comprehension's loop begins -/
structure Begun (D C : Addr) (s₂ : Shared) (h₁ : Heap) : Prop where
  hD : s₂.heap.get? D = none
  hC : s₂.heap.get? C = none
  ne : D ≠ C
  ns : h₁.Ns C (fun _ => none)
  sub : Sub s₂.heap h₁

noncomputable abbrev after {s₂ : Shared} (h₁ : Heap) (s₂ : Shared) : Shared := { s₂ with heap := h₁ }

theorem blockL {elt target iter : Expr} {ifs : List Expr} {scope : Scope} {cl : List (Str × Addr)} {pos : Pos} {s₂ : Shared} {it : Value} {RR : Value → Addr → Result → Shared → Prop}
    (hcell : ∀ y ∈ scope.names, y.2 ≠ .cell) (hkind : scope.kind = .function)
    (h : ∀ D C h₁, Begun D C s₂ h₁ → h₁.PlainList D #[] → wpAny (model prog w) A (pyIter it) (fun it' s' => it' = it ∧ s' = { s₂ with heap := h₁ }) NoE { s₂ with heap := h₁ } ∧
      ∃ I n, I n { s₂ with heap := h₁ } ∧ ∀ n s, I n s → Turn prog w A target ifs it (compEnvC scope cl C env) (bodyL prog w A elt (.ref D) (compEnvC scope cl C env)) (RR (.ref D) C (.ok .next)) I n s) :
    wpAny (model prog w) A (newList []) (fun acc s₃ => wpAny (model prog w) A (newFunctionEnv scope env.globals cl [] env.qual none .none (some env)) (fun cenv s₄ =>
      codeAny (model prog w) A (.compStart (.ListComp elt [⟨target, iter, ifs, 0⟩] scope pos) 0 it acc { cenv with scope := relabel scope env }) (RR acc cenv.locals) s₄) NoE s₃) NoE s₂ := by
  refine wpAny_newObj_type (wpAny_newFunctionEnv hcell (by intro y hy; simp at hy) (fun h₁ hns₁ hsb₁ => ?_) hkind)
  dsimp only at hns₁ hsb₁ ⊢
  have hC : (s₂.heap.push { cls := .type "list", dict := none, data := .seq ([] : List Value).toArray }).objs.size = s₂.heap.objs.size + 1 := by rw [Heap.size_push]
  have hDC : s₂.heap.objs.size ≠ (s₂.heap.push { cls := .type "list", dict := none, data := .seq ([] : List Value).toArray }).objs.size := by rw [hC]; exact Nat.ne_of_lt (Nat.lt_succ_self _)
  have B : Begun s₂.heap.objs.size (s₂.heap.push { cls := .type "list", dict := none, data := .seq ([] : List Value).toArray }).objs.size s₂ h₁ :=
    ⟨get_size_none _, get_ge_none (by rw [hC]; exact Nat.le_succ _), hDC, hns₁, fun b o e => hsb₁.extBut b o (by rw [hC]; exact Nat.ne_of_lt (Nat.lt_succ_of_lt (Heap.lt_size e))) (sub_push _ _ _ _ (sub_push _ _ _ _ e))⟩
  refine Classical.byContradiction fun hNo => ?_
  obtain ⟨hself, I, n, hI, turn⟩ := h _ _ h₁ B ⟨_, hsb₁.extBut _ _ hDC (sub_push _ _ _ _ (Heap.get?_push_size _ rfl))⟩
  refine hNo ?_
  clear hNo
  have loop := loopL (elt := elt) (iter := iter) (scope := scope) (pos := pos) (acc := .ref s₂.heap.objs.size) (R := RR (.ref s₂.heap.objs.size) (s₂.heap.push { cls := .type "list", dict := none, data := .seq ([] : List Value).toArray }).objs.size) I turn n hI
  refine codeAny_compStart_list loop (noE (wpAny_mono hself (fun it' s' e => ?_) fun _ _ f => f))
  obtain ⟨rfl, rfl⟩ := e
  exact loop

theorem blockD {kx vx target iter : Expr} {ifs : List Expr} {scope : Scope} {cl : List (Str × Addr)} {pos : Pos} {s₂ : Shared} {it : Value} {RR : Value → Addr → Result → Shared → Prop}
    (hcell : ∀ y ∈ scope.names, y.2 ≠ .cell) (hkind : scope.kind = .function)
    (h : ∀ D C h₁, Begun D C s₂ h₁ → (D == sysModules) = false → (∀ (K : Type) [DecidableEq K] (knd : KeyKind prog w K), h₁.DictOf knd D []) → wpAny (model prog w) A (pyIter it) (fun it' s' => it' = it ∧ s' = { s₂ with heap := h₁ }) NoE { s₂ with heap := h₁ } ∧
      ∃ I n, I n { s₂ with heap := h₁ } ∧ ∀ n s, I n s → Turn prog w A target ifs it (compEnvC scope cl C env) (bodyD prog w A kx vx D (compEnvC scope cl C env)) (RR (.ref D) C (.ok .next)) I n s) (hlo : (s₂.heap.objs.size == sysModules) = false) :
    wpAny (model prog w) A newDict (fun acc s₃ => wpAny (model prog w) A (newFunctionEnv scope env.globals cl [] env.qual none .none (some env)) (fun cenv s₄ =>
      codeAny (model prog w) A (.compStart (.DictComp kx vx [⟨target, iter, ifs, 0⟩] scope pos) 0 it acc { cenv with scope := relabel scope env }) (RR acc cenv.locals) s₄) NoE s₃) NoE s₂ := by
  refine wpAny_newObj_type (wpAny_newFunctionEnv hcell (by intro y hy; simp at hy) (fun h₁ hns₁ hsb₁ => ?_) hkind)
  dsimp only at hns₁ hsb₁ ⊢
  have hC : (s₂.heap.push { cls := .type "dict", dict := none, data := .dict #[] }).objs.size = s₂.heap.objs.size + 1 := by rw [Heap.size_push]
  have hDC : s₂.heap.objs.size ≠ (s₂.heap.push { cls := .type "dict", dict := none, data := .dict #[] }).objs.size := by rw [hC]; exact Nat.ne_of_lt (Nat.lt_succ_self _)
  have B : Begun s₂.heap.objs.size (s₂.heap.push { cls := .type "dict", dict := none, data := .dict #[] }).objs.size s₂ h₁ :=
    ⟨get_size_none _, get_ge_none (by rw [hC]; exact Nat.le_succ _), hDC, hns₁, fun b o e => hsb₁.extBut b o (by rw [hC]; exact Nat.ne_of_lt (Nat.lt_succ_of_lt (Heap.lt_size e))) (sub_push _ _ _ _ (sub_push _ _ _ _ e))⟩
  refine Classical.byContradiction fun hNo => ?_
  obtain ⟨hself, I, n, hI, turn⟩ := h _ _ h₁ B hlo (fun K _ knd => (Heap.DictOf.new (knd := knd) s₂.heap).at fun o e => hsb₁.extBut _ _ hDC (sub_push _ _ _ _ e))
  refine hNo ?_
  clear hNo
  have loop := loopD (kx := kx) (vx := vx) (iter := iter) (scope := scope) (pos := pos) (D := s₂.heap.objs.size) (R := RR (.ref s₂.heap.objs.size) (s₂.heap.push { cls := .type "dict", dict := none, data := .dict #[] }).objs.size) I turn n hI
  refine codeAny_compStart_dict loop (noE (wpAny_mono hself (fun it' s' e => ?_) fun _ _ f => f))
  obtain ⟨rfl, rfl⟩ := e
  exact loop
end
end Mine
end
section
open PySem PySem.W PySem.Calls PyProof.Rows
set_option maxRecDepth 100000
set_option linter.unusedVariables false
set_option linter.unusedSimpArgs false
namespace Mine

section
variable {prog : Program} {w : World} {A : Around} {s s₀ : Shared} {env : Env} {R : Heap} {X : List Addr} {L : Addr} {m : Str → Option Value}

noncomputable abbrev doneE (Q : Value → Shared → Prop) (D C : Addr) : Shared → Prop := fun s' => ∃ m, s'.heap.Ns C m ∧ ∀ h', Heap.SameBut C s'.heap h' → Q (.ref D) { s' with heap := h' }
noncomputable abbrev doneA (prog : Program) (w : World) (A : Around) (env : Env) (y : Str) (py : Pos) (Q : Flow → Shared → Prop) (D C : Addr) : Shared → Prop := fun s' =>
  wpAny (model prog w) A (assign (.Name y py) env (.ref D)) (fun _ s'' => ∃ m, s''.heap.Ns C m ∧ ∀ h', Heap.SameBut C s''.heap h' → Q .next { s'' with heap := h' }) NoE s'

/-- what a comprehension has to show behind its first iterator -/
noncomputable def Loops (prog : Program) (w : World) (A : Around) (target : Expr) (ifs : List Expr) (it : Value) (cenv : Env) (Body : (Unit → Shared → Prop) → Shared → Prop) (Done : Shared → Prop) (s : Shared) : Prop :=
  wpAny (model prog w) A (pyIter it) (fun it' s' => it' = it ∧ s' = s) NoE s ∧ ∃ I n, I n s ∧ ∀ n s, I n s → Turn prog w A target ifs it cenv Body Done I n s

theorem evalL {elt target iter : Expr} {ifs : List Expr} {scope : Scope} {cl : List (Str × Addr)} {pos : Pos} {Q : Value → Shared → Prop}
    (hclos : closureFor scope env = pure cl) (hcell : ∀ y ∈ scope.names, y.2 ≠ .cell) (hkind : scope.kind = .function) (hnames : ∀ y ∈ scope.names, y.2 = .local → scope.names.lookup y.1 = some .local)
    (h : wpAny (model prog w) A (eval iter env) (fun x s₁ => wpAny (model prog w) A (pyIter x) (fun it s₂ => ∀ D C h₁, Begun D C s₂ h₁ → h₁.PlainList D #[] →
      Loops prog w A target ifs it (compEnvC scope cl C env) (bodyL prog w A elt (.ref D) (compEnvC scope cl C env)) (doneE Q D C) { s₂ with heap := h₁ }) NoE s₁) NoE s)
    (hs : ∀ x, foldedSetIterable iter env x = pure x) :
    wpAny (model prog w) A (eval (.ListComp elt [⟨target, iter, ifs, 0⟩] scope pos) env) Q NoE s := by
  rw [eval_ListComp]
  refine wpAny_comprehension_free (use := none) rfl hs hclos hkind hnames (wpAny_mono h (fun xv s₁ h₁ => wpAny_mono h₁ (fun it s₂ h₂ => ?_) fun _ _ e => e) fun _ _ e => e)
  exact blockL (RR := fun acc C => compPost (model prog w) A NoE none Q acc C) hcell hkind fun D C h₁ B hp => h₂ D C h₁ B hp

theorem assignL {elt target iter : Expr} {ifs : List Expr} {scope : Scope} {cl : List (Str × Addr)} {pos spos py : Pos} {y : Str} {Q : Flow → Shared → Prop}
    (hsw : swapsWith (.ListComp elt [⟨target, iter, ifs, 0⟩] scope pos) (some (.Name y py)) spos.line env = pure true)
    (hclos : closureFor scope env = pure cl) (hcell : ∀ y ∈ scope.names, y.2 ≠ .cell) (hkind : scope.kind = .function) (hnames : ∀ y ∈ scope.names, y.2 = .local → scope.names.lookup y.1 = some .local)
    (h : wpAny (model prog w) A (eval iter env) (fun x s₁ => wpAny (model prog w) A (pyIter x) (fun it s₂ => ∀ D C h₁, Begun D C s₂ h₁ → h₁.PlainList D #[] →
      Loops prog w A target ifs it (compEnvC scope cl C env) (bodyL prog w A elt (.ref D) (compEnvC scope cl C env)) (doneA prog w A env y py Q D C) { s₂ with heap := h₁ }) NoE s₁) NoE s)
    (hs : ∀ x, foldedSetIterable iter env x = pure x) :
    wpAny (model prog w) A (exec (.Assign [.Name y py] (.ListComp elt [⟨target, iter, ifs, 0⟩] scope pos) spos) env) Q NoE s := by
  rw [exec_Assign_Name_used _ _ _ _ hsw]
  refine wpAny_bind (wpAny_standAt (wpAny_bind ?_))
  show wpAny _ A (do let _ ← comprehension (.ListComp elt [⟨target, iter, ifs, 0⟩] scope pos) scope env _ (newList []) false (eval iter env) (some (assign (.Name y py) env))) _ _ s
  refine wpAny_bind (wpAny_mono (wpAny_comprehension_free (use := some (assign (.Name y py) env)) (Q := fun _ s' => Q .next s') rfl hs hclos hkind hnames
    (wpAny_mono h (fun xv s₁ h₁ => wpAny_mono h₁ (fun it s₂ h₂ => ?_) fun _ _ e => e) fun _ _ e => e)) (fun _ s' hq => wpAny_pure (wpAny_pure hq)) fun _ _ e => e)
  exact blockL (RR := fun acc C => compPost (model prog w) A NoE (some (assign (.Name y py) env)) (fun _ s' => Q .next s') acc C) hcell hkind fun D C h₁ B hp => h₂ D C h₁ B hp

theorem evalD {kx vx target iter : Expr} {ifs : List Expr} {scope : Scope} {cl : List (Str × Addr)} {pos : Pos} {Q : Value → Shared → Prop}
    (hclos : closureFor scope env = pure cl) (hcell : ∀ y ∈ scope.names, y.2 ≠ .cell) (hkind : scope.kind = .function) (hnames : ∀ y ∈ scope.names, y.2 = .local → scope.names.lookup y.1 = some .local)
    (h : wpAny (model prog w) A (eval iter env) (fun x s₁ => wpAny (model prog w) A (pyIter x) (fun it s₂ => (s₂.heap.objs.size == sysModules) = false ∧ ∀ D C h₁, Begun D C s₂ h₁ → (D == sysModules) = false → (∀ (K : Type) [DecidableEq K] (knd : KeyKind prog w K), h₁.DictOf knd D []) →
      Loops prog w A target ifs it (compEnvC scope cl C env) (bodyD prog w A kx vx D (compEnvC scope cl C env)) (doneE Q D C) { s₂ with heap := h₁ }) NoE s₁) NoE s)
    (hs : ∀ x, foldedSetIterable iter env x = pure x) :
    wpAny (model prog w) A (eval (.DictComp kx vx [⟨target, iter, ifs, 0⟩] scope pos) env) Q NoE s := by
  rw [arm_eval_DictComp]
  refine wpAny_comprehension_free (use := none) rfl hs hclos hkind hnames (wpAny_mono h (fun xv s₁ h₁ => wpAny_mono h₁ (fun it s₂ h₂ => ?_) fun _ _ e => e) fun _ _ e => e)
  exact blockD (RR := fun acc C => compPost (model prog w) A NoE none Q acc C) hcell hkind (fun D C h₁ B lo hp => h₂.2 D C h₁ B lo hp) h₂.1

theorem assignD {kx vx target iter : Expr} {ifs : List Expr} {scope : Scope} {cl : List (Str × Addr)} {pos spos py : Pos} {y : Str} {Q : Flow → Shared → Prop}
    (hsw : swapsWith (.DictComp kx vx [⟨target, iter, ifs, 0⟩] scope pos) (some (.Name y py)) spos.line env = pure true)
    (hclos : closureFor scope env = pure cl) (hcell : ∀ y ∈ scope.names, y.2 ≠ .cell) (hkind : scope.kind = .function) (hnames : ∀ y ∈ scope.names, y.2 = .local → scope.names.lookup y.1 = some .local)
    (h : wpAny (model prog w) A (eval iter env) (fun x s₁ => wpAny (model prog w) A (pyIter x) (fun it s₂ => (s₂.heap.objs.size == sysModules) = false ∧ ∀ D C h₁, Begun D C s₂ h₁ → (D == sysModules) = false → (∀ (K : Type) [DecidableEq K] (knd : KeyKind prog w K), h₁.DictOf knd D []) →
      Loops prog w A target ifs it (compEnvC scope cl C env) (bodyD prog w A kx vx D (compEnvC scope cl C env)) (doneA prog w A env y py Q D C) { s₂ with heap := h₁ }) NoE s₁) NoE s)
    (hs : ∀ x, foldedSetIterable iter env x = pure x) :
    wpAny (model prog w) A (exec (.Assign [.Name y py] (.DictComp kx vx [⟨target, iter, ifs, 0⟩] scope pos) spos) env) Q NoE s := by
  rw [exec_Assign_Name_used _ _ _ _ hsw]
  refine wpAny_bind (wpAny_standAt (wpAny_bind ?_))
  show wpAny _ A (do let _ ← comprehension (.DictComp kx vx [⟨target, iter, ifs, 0⟩] scope pos) scope env _ newDict false (eval iter env) (some (assign (.Name y py) env))) _ _ s
  refine wpAny_bind (wpAny_mono (wpAny_comprehension_free (use := some (assign (.Name y py) env)) (Q := fun _ s' => Q .next s') rfl hs hclos hkind hnames
    (wpAny_mono h (fun xv s₁ h₁ => wpAny_mono h₁ (fun it s₂ h₂ => ?_) fun _ _ e => e) fun _ _ e => e)) (fun _ s' hq => wpAny_pure (wpAny_pure hq)) fun _ _ e => e)
  exact blockD (RR := fun acc C => compPost (model prog w) A NoE (some (assign (.Name y py) env)) (fun _ s' => Q .next s') acc C) hcell hkind (fun D C h₁ B lo hp => h₂.2 D C h₁ B lo hp) h₂.1

/-! ## with frames -/
theorem Fm.into {D C : Addr} {h₁ : Heap} (F : Fm s₀ R X L m s) (B : Begun D C s h₁) : Fm s₀ R (D :: L :: X) C (fun _ => none) { s with heap := h₁ } :=
  ⟨F.step.heap (F.step.sub.trans B.sub), B.ns, F.has.trans B.sub, fun x hx => by
    simp only [List.mem_cons] at hx
    rcases hx with rfl | rfl | rfl | hx
    · exact F.none_of B.hC
    · exact F.none_of B.hD
    · exact F.out _ (List.mem_cons_self ..)
    · exact F.out _ (List.mem_cons_of_mem _ hx)⟩

theorem Fm.leave {D C : Addr} {mc : Str → Option Value} {h' : Heap} (F : Fm s₀ R (D :: L :: X) C mc s) (hn : s.heap.Ns L m) (hLC : L ≠ C) (k : Heap.SameBut C s.heap h') : Fm s₀ R (D :: X) L m { s with heap := h' } :=
  ⟨F.step.heap fun b o e => k.extBut b o (fun q => by rw [q, (F.out C (by simp)).2] at e; cases e) (F.step.sub b o e), hn.at' fun o e => k.extBut L o hLC e,
   fun b o e => k.extBut b o (fun q => by rw [q, (F.out C (by simp)).1] at e; cases e) (F.has b o e), fun x hx => F.out x (by
    simp only [List.mem_cons] at hx ⊢
    rcases hx with rfl | rfl | hx
    · simp
    · simp
    · simp [hx])⟩

/-- a fresh object goes into the reference -/
theorem Fm.adopt (F : Fm s₀ R X L m s) {B : Addr} {o : Obj} (hB : s.heap.get? B = some o) (h0 : s₀.heap.get? B = none) (hLX : B ∉ L :: X) : ∃ R', Grow R R' s₀.heap ∧ Fm s₀ R' X L m s ∧ R'.get? B = some o := by
  have other : ∀ b, b ≠ B → (only (fun b => (R.get? b).isSome || b == B) s.heap).get? b = R.get? b := fun b hb => by
    rw [only_get]
    cases er : R.get? b with
    | none => simp [hb]
    | some y => simp; exact F.has b y er
  refine ⟨only (fun b => (R.get? b).isSome || b == B) s.heap, ⟨fun b x e => ?_, fun b x e => ?_⟩, ⟨F.step, F.ns, fun b x e => ?_, fun x hx => ⟨?_, (F.out x hx).2⟩⟩, ?_⟩
  · rw [only_get, e]; simpa using F.has b x e
  · by_cases hb : b = B
    · subst hb; exact .inr h0
    · rw [other b hb] at e; exact .inl e
  · rw [only_get] at e
    split at e
    · exact e
    · cases e
  · rw [other x (fun q => hLX (q ▸ hx))]; exact (F.out x hx).1
  · rw [only_get]; simp [hB]

noncomputable def MonoB (Body : (Unit → Shared → Prop) → Shared → Prop) : Prop := ∀ K K' s, (∀ u s', K u s' → K' u s') → Body K s → Body K' s
theorem monoL {elt : Expr} {acc : Value} {cenv : Env} : MonoB (bodyL prog w A elt acc cenv) := fun K K' s hk h =>
  wpAny_mono h (fun _ _ h' => wpAny_mono h' (fun _ _ q => hk _ _ q) fun _ _ f => f) fun _ _ f => f
theorem monoD {kx vx : Expr} {D : Addr} {cenv : Env} : MonoB (bodyD prog w A kx vx D cenv) := fun K K' s hk h =>
  wpAny_mono h (fun _ _ h' => wpAny_mono h' (fun _ _ h'' => wpAny_mono h'' (fun _ _ q => hk _ _ q) fun _ _ f => f) fun _ _ f => f) fun _ _ f => f

/-- what a turn leaves -/
noncomputable def Left (s₀ : Shared) (R₁ : Heap) (XX : List Addr) (C : Addr) (Y : List Addr) (J : Nat → Heap → Shared → Prop) (i : Nat) (s₁ s' : Shared) : Prop :=
  ∃ m₂ R₂, Grow R₁ R₂ s₀.heap ∧ Fm s₀ R₂ XX C m₂ s' ∧ J i R₂ s' ∧ KB (C :: Y) s₁.heap s'.heap

theorem turnsU {I C : Addr} {fp wr XX : List Addr} {n : Nat} {Pt : Nat → Array Value → Prop} {St : Nat → Heap → Prop} {Mid : Nat → Addr → Heap → Prop} {xs : List (Str × Pos)} {k : Nat} {pos : Pos} {ifs : List Expr} {cenv : Env}
    {Body : (Unit → Shared → Prop) → Shared → Prop} {Done : Shared → Prop} (hB : MonoB Body)
    (W : WalksU prog w A I fp wr n Pt St Mid) (hh : A.handled = none) (F : Fm s₀ R XX C m s) (hst : St 0 s.heap) (hwr : ∀ b ∈ wr, b ∈ XX) (hCX : C ∉ XX) (hCf : C ∉ fp)
    (hlen : ∀ i vals, Pt i vals → xs.length = vals.size) (hl : ∀ x ∈ xs, cenv.kindOf x.1 = some .local) (hk : cenv.scope.kind = .function) (hC : cenv.locals = C)
    (Y : List Addr) (hY : ∀ y ∈ Y, y ∉ fp) (J : Nat → Heap → Shared → Prop) (h0 : J 0 R s)
    (hJ : ∀ i R s s', J i R s → Mv (C :: wr) s s' → J i R s')
    (step : ∀ i vals m₁ R₁ s₁, i < n → Pt i vals → Grow R R₁ s₀.heap → J i R₁ s₁ → St (i + 1) s₁.heap → Fm s₀ R₁ XX C (bindAll m₁ (xs.map (·.1)) vals.toList) s₁ →
      wpAny (model prog w) A (tests ifs cenv) (fun ok s₃ => if ok = true then Body (fun _ s₅ => Left s₀ R₁ XX C Y J (i + 1) s₁ s₅) s₃ else Left s₀ R₁ XX C Y J (i + 1) s₁ s₃) NoE s₁)
    (done : ∀ m₁ R₁ s₁, Grow R R₁ s₀.heap → Fm s₀ R₁ XX C m₁ s₁ → J n R₁ s₁ → Done s₁) :
    Loops prog w A (.Tuple (xs.map fun x => Expr.Name x.1 x.2) k pos) ifs (.ref I) cenv Body Done s := by
  refine ⟨W.self 0 _ _ _ hst ⟨rfl, rfl⟩, fun q s => ∃ i m₁ R₁, q + i = n ∧ Grow R R₁ s₀.heap ∧ Fm s₀ R₁ XX C m₁ s ∧ St i s.heap ∧ J i R₁ s, n, ⟨0, m, R, rfl, Grow.refl _ _, F, hst, h0⟩, ?_⟩
  intro q s hJo
  refine Classical.byContradiction fun hNo => ?_
  obtain ⟨i, m₁, R₁, hq, G₁, F₁, hst₁, hJ₁⟩ := hJo
  refine hNo ?_
  clear hNo
  refine drawU W hh F₁ hst₁ (by omega) hwr hCX hCf hlen hl hk hC (fun hi s₂ F₂ M₂ => ?_) fun hi vals s₂ hP F₂ M₂ hst₂ => ?_
  · subst hi
    exact done m₁ R₁ s₂ G₁ F₂ (hJ _ _ _ _ hJ₁ (M₂.mono fun y hy => List.mem_cons_of_mem _ hy))
  · have fin : ∀ s', Left s₀ R₁ XX C Y J (i + 1) s₂ s' → ∃ mm, mm < q ∧ ∃ i m₁ R₁, mm + i = n ∧ Grow R R₁ s₀.heap ∧ Fm s₀ R₁ XX C m₁ s' ∧ St i s'.heap ∧ J i R₁ s' := by
      intro s' hJo
      refine Classical.byContradiction fun hNo => ?_
      obtain ⟨m₂, R₂, G₂, F₃, hJ₃, K₃⟩ := hJo
      refine hNo ?_
      clear hNo
      refine ⟨q - 1, by omega, i + 1, m₂, R₂, by omega, G₁.trans G₂ (Sub.refl _), F₃, W.frame _ _ _ hst₂ fun b hb o e => K₃ b o ?_ e, hJ₃⟩
      intro hm
      rcases List.mem_cons.mp hm with rfl | hm
      · exact hCf hb
      · exact hY b hm hb
    refine wpAny_mono (step i vals m₁ R₁ s₂ hi hP G₁ (hJ _ _ _ _ hJ₁ M₂) hst₂ F₂) (fun ok s₃ h₃ => ?_) fun _ _ q => q
    cases ok with
    | true => exact hB _ _ _ (fun _ s' q => fin s' q) h₃
    | false => exact fin s₃ h₃

theorem turnsW {I C : Addr} {fp wr XX : List Addr} {n : Nat} {P : Nat → Value → Prop} {St : Nat → Heap → Prop} {x : Str} {px : Pos} {ifs : List Expr} {cenv : Env}
    {Body : (Unit → Shared → Prop) → Shared → Prop} {Done : Shared → Prop} (hB : MonoB Body)
    (W : Walks prog w A I fp wr n P St) (F : Fm s₀ R XX C m s) (hst : St 0 s.heap) (hwr : ∀ b ∈ wr, b ∈ XX) (hCX : C ∉ XX) (hCf : C ∉ fp)
    (hl : cenv.kindOf x = some .local) (hk : cenv.scope.kind = .function) (hC : cenv.locals = C)
    (Y : List Addr) (hY : ∀ y ∈ Y, y ∉ fp) (J : Nat → Heap → Shared → Prop) (h0 : J 0 R s)
    (hJ : ∀ i R s s', J i R s → Mv (C :: wr) s s' → J i R s')
    (step : ∀ i v (m₁ : Str → Option Value) R₁ s₁, i < n → P i v → Grow R R₁ s₀.heap → J i R₁ s₁ → St (i + 1) s₁.heap → Fm s₀ R₁ XX C (fun y => if y = x then some v else m₁ y) s₁ →
      wpAny (model prog w) A (tests ifs cenv) (fun ok s₃ => if ok = true then Body (fun _ s₅ => Left s₀ R₁ XX C Y J (i + 1) s₁ s₅) s₃ else Left s₀ R₁ XX C Y J (i + 1) s₁ s₃) NoE s₁)
    (done : ∀ m₁ R₁ s₁, Grow R R₁ s₀.heap → Fm s₀ R₁ XX C m₁ s₁ → J n R₁ s₁ → Done s₁) :
    Loops prog w A (.Name x px) ifs (.ref I) cenv Body Done s := by
  refine ⟨W.self 0 _ _ _ hst ⟨rfl, rfl⟩, fun q s => ∃ i m₁ R₁, q + i = n ∧ Grow R R₁ s₀.heap ∧ Fm s₀ R₁ XX C m₁ s ∧ St i s.heap ∧ J i R₁ s, n, ⟨0, m, R, rfl, Grow.refl _ _, F, hst, h0⟩, ?_⟩
  intro q s hJo
  refine Classical.byContradiction fun hNo => ?_
  obtain ⟨i, m₁, R₁, hq, G₁, F₁, hst₁, hJ₁⟩ := hJo
  refine hNo ?_
  clear hNo
  refine drawW W F₁ hst₁ (by omega) hwr hCX hCf hl hk hC (fun hi s₂ F₂ M₂ => ?_) fun hi v s₂ hP F₂ M₂ hst₂ => ?_
  · subst hi
    exact done m₁ R₁ s₂ G₁ F₂ (hJ _ _ _ _ hJ₁ (M₂.mono fun y hy => List.mem_cons_of_mem _ hy))
  · have fin : ∀ s', Left s₀ R₁ XX C Y J (i + 1) s₂ s' → ∃ mm, mm < q ∧ ∃ i m₁ R₁, mm + i = n ∧ Grow R R₁ s₀.heap ∧ Fm s₀ R₁ XX C m₁ s' ∧ St i s'.heap ∧ J i R₁ s' := by
      intro s' hJo
      refine Classical.byContradiction fun hNo => ?_
      obtain ⟨m₂, R₂, G₂, F₃, hJ₃, K₃⟩ := hJo
      refine hNo ?_
      clear hNo
      refine ⟨q - 1, by omega, i + 1, m₂, R₂, by omega, G₁.trans G₂ (Sub.refl _), F₃, W.frame _ _ _ hst₂ fun b hb o e => K₃ b o ?_ e, hJ₃⟩
      intro hm
      rcases List.mem_cons.mp hm with rfl | hm
      · exact hCf hb
      · exact hY b hm hb
    refine wpAny_mono (step i v m₁ R₁ s₂ hi hP G₁ (hJ _ _ _ _ hJ₁ M₂) hst₂ F₂) (fun ok s₃ h₃ => ?_) fun _ _ q => q
    cases ok with
    | true => exact hB _ _ _ (fun _ s' q => fin s' q) h₃
    | false => exact fin s₃ h₃
end
end Mine
end
section
open PySem PySem.W PySem.Calls PyProof.Rows
set_option maxRecDepth 100000
set_option linter.unusedVariables false
set_option linter.unusedSimpArgs false
namespace Mine

noncomputable def dom (R : Heap) : List Addr := (List.range R.objs.size).filter fun b => (R.get? b).isSome
theorem mem_dom {R : Heap} {b : Addr} : b ∈ dom R ↔ (R.get? b).isSome = true := by
  unfold dom
  rw [List.mem_filter, List.mem_range]
  constructor
  · exact fun h => h.2
  · intro h
    obtain ⟨o, ho⟩ := Option.isSome_iff_exists.mp h
    exact ⟨Heap.lt_size ho, h⟩
theorem notin_dom {R : Heap} {b : Addr} (h : R.get? b = none) : b ∉ dom R := fun hm => by have := mem_dom.mp hm; rw [h] at this; cases this

section
variable {prog : Program} {w : World} {A : Around} {s s₀ : Shared} {env : Env} {R : Heap} {X : List Addr} {L : Addr} {m : Str → Option Value} {mg mb : Str → Option Value}

/-- tuples of a list that the reference holds -/
theorem walksR (hh : A.handled = none) (I ax : Addr) {items : Array Value} (hax : R.IsList ax items) (hI : R.get? I = none) {Vals : Nat → Array Value → Prop}
    (hv : ∀ i, i < items.size → ∃ T xs, items[i]? = some (.ref T) ∧ R.IsTuple T xs ∧ Vals i xs) :
    WalksU prog w A I (I :: dom R) [I] items.size Vals (fun i h => h.IsListIter I ax i ∧ Sub R h) (fun i T h => T ≠ I ∧ h.IsListIter I ax (i + 1) ∧ Sub R h) where
  sub := by simp
  frame := fun i h h' st hk => ⟨st.1.at fun o e => hk I (by simp) o e, fun b o e => hk b (List.mem_cons_of_mem _ (mem_dom.mpr (by rw [e]; rfl))) o (st.2 b o e)⟩
  item := fun i s Q E hi st hQ => by
    refine Classical.byContradiction fun hNo => ?_
    obtain ⟨T, xs, hT, hx, hV⟩ := hv i hi
    refine hNo ?_
    clear hNo
    refine wpAny_pyNext_list_item st.1 (isList_keeps hax st.2) hT fun h' hit' hs' => ?_
    have hTI : T ≠ I := by rintro rfl; obtain ⟨o, ho, _⟩ := hx; rw [ho] at hI; cases hI
    have hsub : Sub R h' := fun b o e => hs'.extBut b o (by rintro rfl; rw [e] at hI; cases hI) (st.2 b o e)
    exact hQ T xs h' s.toks hV (isTuple_keeps hx hsub) ⟨hTI, hit', hsub⟩ fun b o hb e => hs'.extBut b o (by simpa using hb) e
  go := fun elts k pos i T s Q E hM hQ => wpAny_letOwnedTupleGo_listiter hM.2.1 (hQ s.heap hM.2 fun b o _ e => e)
  apart := fun i T h hM => by simpa using hM.1
  done := fun s Q E st hQ => wpAny_pyNext_list_end hh st.1 (isList_keeps hax st.2) (by simp) fun h' he' => hQ h' s.toks fun b o hb e => he' b o (by simpa using hb) e
  self := fun _ _ _ _ st hQ => wpAny_pyIter_listiter st.1 hQ

/-! ## letters with their turns -/
noncomputable abbrev Run := List (Nat × Int)
noncomputable def IsLT (h : Heap) (v : Value) (p : Nat × Int) : Prop := ∃ T a b, v = .ref T ∧ h.IsTuple T #[.str ⟨#[p.1]⟩ a, .int p.2 b]
noncomputable def IsRun (h : Heap) (v : Value) (r : Run) : Prop := ∃ D vs, v = .ref D ∧ h.PlainList D vs ∧ All2 (fun v p => IsLT h v p) vs.toList r
theorem IsLT.keeps {h h' : Heap} {v : Value} {p : Nat × Int} (x : IsLT h v p) (k : Sub h h') : IsLT h' v p := let ⟨T, a, b, e, r⟩ := x; ⟨T, a, b, e, isTuple_keeps r k⟩
theorem IsRun.keeps {h h' : Heap} {v : Value} {r : Run} (x : IsRun h v r) (k : Sub h h') : IsRun h' v r :=
  let ⟨D, vs, e, p, a⟩ := x; ⟨D, vs, e, p.at (fun o => k D o), All2.mono (fun _ _ y => y.keeps k) a⟩

noncomputable def undoneP (r : Run) : Run := r.reverse.map fun p => (p.1, -p.2)

theorem All2.reverse {α β : Type} {P : α → β → Prop} : ∀ {as : List α} {bs : List β}, All2 P as bs → All2 P as.reverse bs.reverse
  | [], [], _ => trivial
  | a :: as, b :: bs, h => by
    rw [List.reverse_cons, List.reverse_cons]
    exact (All2.reverse h.2).append ⟨h.1, trivial⟩
  | [], _ :: _, h => h.elim
  | _ :: _, [], h => h.elim

theorem strApp (a b : List Nat) : (⟨a.toArray⟩ : Str) ++ ⟨b.toArray⟩ = ⟨(a ++ b).toArray⟩ := by
  show (⟨a.toArray ++ b.toArray⟩ : Str) = _
  simp
theorem strLen (a : List Nat) : (⟨a.toArray⟩ : Str).length = a.length := by simp [Str.length]

theorem unit_spec (G : GE prog w mg mb R) (hA : AOk A 4) (hR : Sub R s.heap) (a : Addr) (ha : mg "_law_unit" = some (.ref a)) {cs : List Nat} {x : Int} {ts tx : Tok} (hn : cs.length ≤ 1000) :
    wpAny (model prog w) A (call (.ref a) [.str ⟨cs.toArray⟩ ts, .int x tx]) (Ret s R (fun _ v => strV (if x = 1 then 92 :: cs else cs) v)) NoE s := by
  refine enterI G 16 (k := 3) (binds := [("sign", .str ⟨cs.toArray⟩ ts), ("undone", .int x tx)]) hA hR rfl ha (by simp) ?_ ?_ (fun L cd s₁ F _ A' => ?_) rfl rfl rfl (by decide +kernel)
  · exact fun _ _ _ => rfl
  · rfl
  refine wpAny_execs_cons ?_
  refine wpAny_Return_some ?_
  refine IfExp_ (wpAny_isTrue_Compare1 (nmL F rfl (wpAny_Constant_int (PySem.P.eq_int (wpAny_truthy_bool ?_)))))
  have F := F.tok (tk := s₁.toks + 1)
  by_cases h : x = 1
  · have e : (x == 1) = true := by simp [h]
    rw [e]
    refine wp_if_t rfl ?_
    refine wpAny_BinOp (wpAny_Constant_str (nmL F.tok rfl (PyProof.Rows.add_str (fun t' tk => ?_) ?_)))
    case refine_2 => show 1 + (⟨cs.toArray⟩ : Str).length ≤ sizeLine; rw [strLen, sizeLine_eq]; omega
    exact (F.tok (tk := tk)).ret R (Grow.refl _ _) ⟨t', by rw [if_pos h]; show Value.str ((⟨[92].toArray⟩ : Str) ++ ⟨cs.toArray⟩) t' = _; rw [strApp]; rfl⟩
  · have e : (x == 1) = false := by simp [h]
    rw [e]
    refine wp_if_f rfl ?_
    refine nmL F rfl (F.ret R (Grow.refl _ _) ⟨ts, by rw [if_neg h]; rfl⟩)

theorem isLT_vals {h : Heap} {vs : List Value} {r : Run} (all : All2 (fun v p => IsLT h v p) vs r) (i : Nat) (hi : i < vs.length) :
    ∃ T xs, vs[i]? = some (.ref T) ∧ h.IsTuple T xs ∧ ∃ p a b, r[i]? = some p ∧ xs = #[.str ⟨#[p.1]⟩ a, .int p.2 b] := by
  refine Classical.byContradiction fun hNo => ?_
  obtain ⟨p, hp, T, a, b, e, hT⟩ := all.get (List.getElem?_eq_getElem hi)
  refine hNo ?_
  clear hNo
  exact ⟨T, _, by rw [List.getElem?_eq_getElem hi, e], hT, p, a, b, hp, rfl⟩

/-- a list that is being made, of what the reference means -/
noncomputable def IsMaking {α : Type} (P : Heap → Value → α → Prop) (R h : Heap) (D : Addr) (l : List α) : Prop := ∃ vs : List Value, h.PlainList D vs.toArray ∧ All2 (fun v a => P R v a) vs l
theorem IsMaking.at {α : Type} {P : Heap → Value → α → Prop} {R R' h h' : Heap} {D : Addr} {l : List α} (x : IsMaking P R h D l) (hP : ∀ v a, P R v a → P R' v a) (k : ∀ o, h.get? D = some o → h'.get? D = some o) : IsMaking P R' h' D l :=
  let ⟨vs, p, a⟩ := x; ⟨vs, p.at k, All2.mono hP a⟩
/-- one more -/
theorem IsMaking.app {α : Type} {P : Heap → Value → α → Prop} {R : Heap} {D : Addr} {l : List α} {v : Value} {a : α} {Q : Value → Shared → Prop} {E : Value → Shared → Prop} {s : Shared} (x : IsMaking P R s.heap D l) (hv : P R v a) (hn : l.length ≤ 100000)
    (h : ∀ h', IsMaking P R h' D (l ++ [a]) → Heap.SameBut D s.heap h' → Q .none { s with heap := h' }) : wpAny (model prog w) A (call (.builtin "list.append") [.ref D, v]) Q E s := by
  refine Classical.byContradiction fun hNo => ?_
  obtain ⟨vs, p, al⟩ := x
  refine hNo ?_
  clear hNo
  refine wpAny_list_append_plain p (fun h' p' hs => h h' ⟨vs ++ [v], by simpa using p', al.append ⟨hv, trivial⟩⟩ hs) ?_
  have := al.length
  rw [List.size_toArray, sizeLine_eq]; omega

theorem ns_live {h : Heap} {L : Addr} {m : Str → Option Value} (n : h.Ns L m) : (h.get? L).isSome = true := by obtain ⟨o, _, _, ho, _⟩ := n; rw [ho]; rfl
theorem making_live {α : Type} {P : Heap → Value → α → Prop} {R h : Heap} {D : Addr} {l : List α} (x : IsMaking P R h D l) : (h.get? D).isSome = true := by obtain ⟨_, ⟨_, ho⟩, _⟩ := x; rw [ho]; rfl
theorem fresh_notin {h : Heap} {XX : List Addr} (x : ∀ y ∈ XX, (h.get? y).isSome = true) : h.objs.size ∉ XX := fun hm => by have := x _ hm; rw [get_size_none] at this; cases this

set_option maxHeartbeats 1000000 in
theorem undone_body (G : GE prog w mg mb R) {L a : Addr} {cd : Value} {A : Around} (A' : AOk A 6) {r : Run} {v : Value} (hr : IsRun R v r) (hn : r.length ≤ 10000)
    (F : Fm s₀ R [] L (fun x => [(("run" : Str), v)].reverse.lookup x) s) :
    wpAny (model prog w) A (execs (fn 17).body (envOf (fn 17).name (fn 17).scope L a cd))
      (fun f s' => Ret s₀ R (fun R' v => IsRun R' v (undoneP r)) (retV f) s') NoE s := by
  refine Classical.byContradiction fun hNo => ?_
  obtain ⟨D₀, vs, rfl, hp, hall⟩ := hr
  refine hNo ?_
  clear hNo
  refine wpAny_execs_cons ?_
  refine wpAny_Return_some ?_
  refine evalL (cl := []) rfl (by decide) rfl (by decide) ?_ (fun _ => rfl)
  refine wpAny_Subscript_Slice_step (T := "list") slot_list_getitem.lookup ?_
  refine nmL F rfl ?_
  refine wpAny_Slice ?_
  rw [evalPart_none]
  refine wpAny_pure (wpAny_pure ?_)
  rw [evalPart_some]
  refine wpAny_UnaryOp (wpAny_Constant_int (P.neg_int ?_))
  have hl : ({ s with heap := s.heap.push { cls := .type "slice", data := .fields #[.none, .none, .int (-1) (s.toks + 1)] }, toks := s.toks + 1 + 1 } : Shared).heap.IsList D₀ vs := (hp.at fun o e => F.has.trans (sub_push _ _) _ o e).isList
  refine ⟨hl.typeIs, ?_⟩
  refine wpAny_getItem_list_slice hl (.new _ _ _ _) .none .none (.int _ _) (by decide) ?_ ?_
  case refine_2 => have := hall.length; rw [Array.length_toList] at this; rw [sizeLine_eq]; omega
  rw [krv_pick]
  have F₁ := F.push (tk := s.toks + 1 + 1) { cls := .type "slice", data := .fields #[.none, .none, .int (-1) (s.toks + 1)] }
  have F₂ := F₁.push (tk := s.toks + 1 + 1) { cls := .type "list", data := .seq vs.toList.reverse.toArray }
  have hl₂ : ((s.heap.push { cls := .type "slice", data := .fields #[.none, .none, .int (-1) (s.toks + 1)] }).push { cls := .type "list", data := .seq vs.toList.reverse.toArray }).IsList (s.heap.push { cls := .type "slice", data := .fields #[.none, .none, .int (-1) (s.toks + 1)] }).objs.size vs.toList.reverse.toArray := ⟨_, Heap.get?_push_size _ rfl, rfl, _, rfl⟩
  refine wpAny_pyIter_list hl₂ ?_
  have hBL : (s.heap.push { cls := .type "slice", data := .fields #[.none, .none, .int (-1) (s.toks + 1)] }).objs.size ∉ L :: ([] : List Addr) := by
    simp only [List.mem_cons, List.not_mem_nil, or_false]; exact Nat.ne_of_gt F₁.lt
  refine Classical.byContradiction fun hNo => ?_
  obtain ⟨o₁, ho₁, hc₁, n₁, hd₁⟩ := hl₂
  obtain ⟨R₁, G₁, F₂, h₁⟩ := F₂.adopt ho₁ (F₁.none_of (get_size_none _)).2 hBL
  refine hNo ?_
  clear hNo
  have hlist : R₁.IsList (s.heap.push { cls := .type "slice", data := .fields #[.none, .none, .int (-1) (s.toks + 1)] }).objs.size vs.toList.reverse.toArray := ⟨_, h₁, hc₁, n₁, hd₁⟩
  generalize (s.heap.push { cls := .type "slice", data := .fields #[.none, .none, .int (-1) (s.toks + 1)] }).objs.size = B at hlist ⊢
  have F₃ := F₂.new (tk := s.toks + 1 + 1) { cls := .type "list_iterator", data := .fields #[.ref B, .int 0 0] }
  have hIt : ((s.heap.push { cls := .type "slice", data := .fields #[.none, .none, .int (-1) (s.toks + 1)] }).push { cls := .type "list", data := .seq vs.toList.reverse.toArray } |>.push { cls := .type "list_iterator", data := .fields #[.ref B, .int 0 0] }).IsListIter ((s.heap.push { cls := .type "slice", data := .fields #[.none, .none, .int (-1) (s.toks + 1)] }).push { cls := .type "list", data := .seq vs.toList.reverse.toArray }).objs.size B 0 := ⟨_, Heap.get?_push_size _ rfl, rfl, rfl⟩
  have hLI : L ≠ ((s.heap.push { cls := .type "slice", data := .fields #[.none, .none, .int (-1) (s.toks + 1)] }).push { cls := .type "list", data := .seq vs.toList.reverse.toArray }).objs.size := Nat.ne_of_lt F₂.lt
  dsimp only at F₃ hIt hLI ⊢
  generalize ((s.heap.push { cls := .type "slice", data := .fields #[.none, .none, .int (-1) (s.toks + 1)] }).push { cls := .type "list", data := .seq vs.toList.reverse.toArray } |>.push { cls := .type "list_iterator", data := .fields #[.ref B, .int 0 0] }) = H3 at F₃ hIt ⊢
  generalize ((s.heap.push { cls := .type "slice", data := .fields #[.none, .none, .int (-1) (s.toks + 1)] }).push { cls := .type "list", data := .seq vs.toList.reverse.toArray }).objs.size = I at F₃ hIt hLI ⊢
  have hall₁ : All2 (fun v p => IsLT R₁ v p) vs.toList.reverse r.reverse := All2.mono (fun _ _ y => y.keeps G₁.sub) hall.reverse
  intro D C h₁' Bg hD
  have Fc := F₃.into Bg
  have hLC : L ≠ C := by rintro rfl; have := Bg.hC; obtain ⟨o, _, _, ho, _⟩ := F₃.ns; rw [ho] at this; cases this
  have hLD : L ≠ D := by rintro rfl; have := Bg.hD; obtain ⟨o, _, _, ho, _⟩ := F₃.ns; rw [ho] at this; cases this
  have hIC : I ≠ C := by rintro rfl; have := Bg.hC; obtain ⟨o, ho, _⟩ := hIt; rw [ho] at this; cases this
  have hID : I ≠ D := by rintro rfl; have := Bg.hD; obtain ⟨o, ho, _⟩ := hIt; rw [ho] at this; cases this
  have hIR := (F₃.out I (by simp)).1
  have hDR := (Fc.out D (by simp)).1
  have hCR := (Fc.out C (by simp)).1
  have hlen : vs.toList.reverse.length = r.length := by rw [List.length_reverse]; exact hall.length
  refine turnsU (k := 0) (xs := [("letter", ⟨93, 32, 93, 38⟩), ("turn", ⟨93, 40, 93, 44⟩)]) monoL
    (walksR A'.hh I B hlist hIR (Vals := fun i xs => ∃ p a b, r.reverse[i]? = some p ∧ xs = #[.str ⟨#[p.1]⟩ a, .int p.2 b]) fun i hi => by simpa using isLT_vals hall₁ i (by simpa using hi))
    A'.hh Fc ⟨let ⟨o, ho, r⟩ := hIt; ⟨o, Bg.sub _ _ ho, r⟩, Fc.has⟩ (by simp) (by simp [Ne.symm Bg.ne, Ne.symm hLC, Ne.symm hIC]) (by simp only [List.mem_cons, not_or]; exact ⟨Ne.symm hIC, notin_dom hCR⟩)
    (by rintro i vals ⟨p, a, b, _, rfl⟩; rfl) (by simp only [List.mem_cons, List.not_mem_nil, or_false]; rintro x (rfl | rfl) <;> rfl) rfl rfl [D]
    (by simp only [List.mem_cons, List.not_mem_nil, or_false, not_or]; rintro y rfl; exact ⟨Ne.symm hID, notin_dom hDR⟩)
    (fun i R s => IsMaking IsLT R s.heap D ((undoneP r).take i) ∧ s.heap.Ns L _) ⟨⟨[], hD, trivial⟩, F₃.ns.keeps Bg.sub⟩
    (fun i R s s' h M => ⟨h.1.at (fun _ _ y => y) (M.at (by simp [Ne.symm hID, Bg.ne])), h.2.at' (M.at (by simp [hLI, hLC]))⟩)
    (fun i vals m₁ R₂ s₁ hi hP G₂ J hst F₄ => ?_) fun m₁ R₂ s₁ G₂ F₄ J => ?_
  · obtain ⟨p, ta, tb, hp, rfl⟩ := hP
    refine wpAny_tests_nil ?_
    rw [if_pos rfl]
    refine Tuple_ (args_cons (nmL F₄ rfl (args_cons (wpAny_UnaryOp (nmL F₄ rfl (P.neg_int (args_nil (wpAny_newTuple ?_))))))))
    have F₅ := F₄.push (tk := s₁.toks + 1) { cls := .type "tuple", data := .seq #[.str ⟨#[p.1]⟩ ta, .int (-p.2) s₁.toks] }
    have hTX : s₁.heap.objs.size ∉ C :: [D, L, I] := fresh_notin (by
      simp only [List.mem_cons, List.not_mem_nil, or_false]
      rintro x (rfl | rfl | rfl | rfl)
      · exact ns_live F₄.ns
      · exact making_live J.1
      · exact ns_live J.2
      · obtain ⟨o, ho, _⟩ := hst.1; rw [ho]; rfl)
    refine Classical.byContradiction fun hNo => ?_
    obtain ⟨R₃, G₃, F₆, hT⟩ := F₅.adopt (Heap.get?_push_size _ rfl) (F₄.none_of (get_size_none _)).2 hTX
    refine hNo ?_
    clear hNo
    refine IsMaking.app (P := IsLT) (R := R₃) (l := (undoneP r).take i) (a := (p.1, -p.2)) (J.1.at (fun _ _ y => y.keeps G₃.sub) fun o e => sub_push _ _ _ _ e) ⟨_, ta, _, rfl, _, hT, rfl, _, rfl⟩ (by simp [undoneP]; omega) fun h' hm hs' => ?_
    refine ⟨_, R₃, G₃, F₆.other (KB.of_same hs' (by simp)) (by simp [Ne.symm Bg.ne, Ne.symm hLC, Ne.symm hIC]), ⟨?_, (J.2.push _).at' fun o e => hs'.extBut L o hLD e⟩, (KB.of_sub (sub_push _ _)).trans (KB.of_same hs' (by simp))⟩
    rw [take_succ_of (l := undoneP r) (x := (p.1, -p.2)) (by rw [undoneP, List.getElem?_map, hp]; rfl)]
    exact hm
  · refine ⟨m₁, F₄.ns, fun h' k => ?_⟩
    have F₅ := F₄.leave J.2 hLC k
    refine Classical.byContradiction fun hNo => ?_
    obtain ⟨vs', ⟨n, ho⟩, al⟩ := J.1
    obtain ⟨R₃, G₃, S₃, h₃⟩ := Grow.add (h := s₀.heap) F₅.has (k.extBut D _ Bg.ne ho) (F₅.out D (by simp)).2
    refine hNo ?_
    clear hNo
    refine ⟨F₅.step, R₃, (G₁.trans G₂ (Sub.refl _)).trans G₃ (Sub.refl _), S₃, D, vs'.toArray, rfl, ⟨n, h₃⟩, ?_⟩
    have e : (undoneP r).take vs.toList.reverse.toArray.size = undoneP r := List.take_of_length_le (by simp [undoneP]; have := hall.length; simp at this; omega)
    rw [e] at al
    exact All2.mono (fun _ _ y => y.keeps G₃.sub) al

theorem undone_spec (G : GE prog w mg mb R) (hA : AOk A 7) (hR : Sub R s.heap) (a : Addr) (ha : mg "_law_undone" = some (.ref a)) {r : Run} {v : Value} (hr : IsRun R v r) (hn : r.length ≤ 10000) :
    wpAny (model prog w) A (call (.ref a) [v]) (Ret s R (fun R' v => IsRun R' v (undoneP r))) NoE s := by
  refine enterI G 17 (k := 6) (binds := [("run", v)]) hA hR rfl ha (by simp) ?_ ?_ (fun L cd s₁ F _ A' => ?_) rfl rfl rfl (by decide +kernel)
  · exact fun _ _ _ => rfl
  · rfl
  · have h := undone_body (a := a) (cd := cd) G A' hr hn F
    with_reducible exact h
end
end Mine
end
section
open PySem PySem.W PySem.Calls PyProof.Rows
set_option maxRecDepth 100000
set_option linter.unusedVariables false
set_option linter.unusedSimpArgs false
namespace Mine

section
variable {prog : Program} {w : World} {A : Around} {s s₀ : Shared} {env : Env} {R : Heap} {X : List Addr} {L : Addr} {m : Str → Option Value} {mg mb : Str → Option Value}

theorem wpWhile {test : Expr} {body : List Stmt} {pos : Pos} {Q : Flow → Shared → Prop} (I : Nat → Shared → Prop) (n : Nat) (h : I n s)
    (turn : ∀ n s, I n s → wpAny (model prog w) A (isTrue test env (eval test env)) (fun b s₂ => if b = true then wpAny (model prog w) A (execs body env) (fun f s₃ => match f with
        | .next | .cont => ∃ m, m < n ∧ I m s₃
        | .brk => Q .next s₃
        | .ret v => Q (.ret v) s₃) NoE s₂ else Q .next s₂) NoE s) :
    wpAny (model prog w) A (exec (.While test body [] pos) env) Q NoE s := by
  refine wpAny_While (codeAny_whileLoop I (fun n s hI => noE (wpAny_mono (turn n s hI) (fun b s₂ h₂ => ?_) fun _ _ f => f)) n h)
  cases b with
  | true => exact noE (wpAny_mono h₂ (fun f s₃ h₃ => by cases f <;> exact h₃) fun _ _ f => f)
  | false => exact wpAny_execs_nil h₂

/-- a list taken apart into names -/
theorem assignLst {xs : List (Str × Pos)} {k : Nat} {pos : Pos} {T : Addr} {vals : Array Value} {Q : Unit → Shared → Prop} (hh : A.handled = none) (F : Fm s₀ R X L m s) (hT : s.heap.IsList T vals)
    (hn : xs.length = vals.size) (hl : ∀ x ∈ xs, env.kindOf x.1 = some .local) (hk : env.scope.kind = .function) (hL : env.locals = L)
    (h : ∀ s', Fm s₀ R X L (bindAll m (xs.map (·.1)) vals.toList) s' → Mv [L] s s' → Q () s') :
    wpAny (model prog w) A (assign (.Tuple (xs.map fun x => Expr.Name x.1 x.2) k pos) env (.ref T)) Q NoE s := by
  rw [arm_assign_Tuple]
  refine wpAny_bind (wpAny_standAt ?_)
  unfold unpack
  rw [show (assignEach (xs.map fun x => Expr.Name x.1 x.2) env).length = vals.size from (assignEach_len env xs).trans hn, assignEach_nostar env xs]
  refine wpAny_bind (wpAny_holding (kun_itemsOf hh hT fun h' hx => ?_))
  rw [assignEach_names]
  have hs := sub_of_ext_size hx
  exact assignIn xs vals.toList m _ Q (F.keep (tk := s.toks) hs) (by simpa using hn) hl hk hL fun s' F' M' => h s' F' ⟨(KB.of_sub hs).trans M'.kb, M'.gens⟩

/-! ## units -/
noncomputable def IsUnits (h : Heap) (v : Value) (us : List (List Nat)) : Prop := ∃ D vs, v = .ref D ∧ h.PlainList D vs ∧ All2 (fun v c => strV c v) vs.toList us
theorem IsUnits.keeps {h h' : Heap} {v : Value} {us : List (List Nat)} (x : IsUnits h v us) (k : Sub h h') : IsUnits h' v us :=
  let ⟨D, vs, e, p, a⟩ := x; ⟨D, vs, e, p.at (fun o => k D o), a⟩
theorem All2.drop {α β : Type} {P : α → β → Prop} : ∀ (n : Nat) {as : List α} {bs : List β}, All2 P as bs → All2 P (as.drop n) (bs.drop n)
  | 0, _, _, h => h
  | n + 1, [], [], h => trivial
  | n + 1, _ :: _, _ :: _, h => All2.drop n h.2
  | _ + 1, [], _ :: _, h => h.elim
  | _ + 1, _ :: _, [], h => h.elim
theorem All2.take {α β : Type} {P : α → β → Prop} : ∀ (n : Nat) {as : List α} {bs : List β}, All2 P as bs → All2 P (as.take n) (bs.take n)
  | 0, _, _, h => trivial
  | n + 1, [], [], h => trivial
  | n + 1, _ :: _, _ :: _, h => ⟨h.1, All2.take n h.2⟩
  | _ + 1, [], _ :: _, h => h.elim
  | _ + 1, _ :: _, [], h => h.elim

theorem pick_nat (items : Array Value) (a b : Nat) : slicePick items (some (a : Int)) (some (b : Int)) none = ((items.toList.drop a).take (b - a)).toArray := by
  rw [slicePick_plain]
  simp only [Option.elim, clipAt_nat]
  exact congrArg List.toArray (clip items.toList a b)

/-- a slice of units, a new list -/
theorem sliceUnits {value : Expr} {lower upper : Expr} {p pos : Pos} {Q : Value → Shared → Prop} {v : Value} {us : List (List Nat)} {a b : Nat} {Qm : Shared → Prop}
    (hu : us.length ≤ 10000)
    (h : wpAny (model prog w) A (eval value env) (fun o s₁ => wpAny (model prog w) A (eval lower env) (fun vl s₂ => wpAny (model prog w) A (eval upper env) (fun vu s₃ =>
      o = v ∧ (∃ t, vl = .int (a : Int) t) ∧ (∃ t, vu = .int (b : Int) t) ∧ IsUnits s₃.heap v us ∧
        ∀ h', Sub s₃.heap h' → IsUnits h' (.ref (s₃.heap.objs.size + 1)) ((us.drop a).take (b - a)) → h'.objs.size = s₃.heap.objs.size + 2 → Q (.ref (s₃.heap.objs.size + 1)) { s₃ with heap := h' }) NoE s₂) NoE s₁) NoE s)
    (ht : ∀ o r, letTemporaryGo value o r = pure ()) :
    wpAny (model prog w) A (eval (.Subscript value (.Slice (some lower) (some upper) none p) pos) env) Q NoE s := by
  refine wpAny_Subscript_list_slice (wpAny_mono h (fun o s₁ h₁ => wpAny_mono h₁ (fun vl s₂ h₂ => wpAny_mono h₂ (fun vu s₃ h₃ => ?_) fun _ _ f => f) fun _ _ f => f) fun _ _ f => f) ht
  refine Classical.byContradiction fun hNo => ?_
  obtain ⟨rfl, ⟨t, rfl⟩, ⟨u, rfl⟩, ⟨D, vs, rfl, hp, hall⟩, hQ⟩ := h₃
  refine hNo ?_
  clear hNo
  have hlen := hall.length
  refine ⟨D, vs, _, _, rfl, hp.isList, by rw [sizeLine_eq]; rw [Array.length_toList] at hlen; omega, .int _ _, .int _ _, ?_⟩
  have hz : (s₃.heap.push { cls := .type "slice", data := .fields #[.int (a : Int) t, .int (b : Int) u, .none] }).objs.size = s₃.heap.objs.size + 1 := Heap.size_push ..
  refine hQ _ ((sub_push _ _).trans (sub_push _ _)) ⟨_, slicePick vs (some (a : Int)) (some (b : Int)) none, rfl, ⟨_, by rw [← hz]; exact Heap.get?_push_size _ rfl⟩, ?_⟩ (by rw [Heap.size_push, hz])
  rw [pick_nat]
  exact (hall.drop a).take (b - a)

/-! ## runs, put together -/
theorem addRun (F : Fm s₀ R X L m s) (hX : ∀ x ∈ X, (s.heap.get? x).isSome = true) {v₁ v₂ : Value} {r₁ r₂ : Run} (h₁ : IsRun R v₁ r₁) (h₂ : IsRun R v₂ r₂) (hn : r₁.length + r₂.length ≤ 100000) {Q : Value → Shared → Prop}
    (h : ∀ R' v s', Grow R R' s₀.heap → Fm s₀ R' X L m s' → IsRun R' v (r₁ ++ r₂) → Sub s.heap s'.heap → s'.gens = s.gens → Q v s') :
    wpAny (model prog w) A (binaryOp .Add v₁ v₂) Q NoE s := by
  refine Classical.byContradiction fun hNo => ?_
  obtain ⟨D₁, vs₁, rfl, ⟨n₁, p₁⟩, a₁⟩ := h₁
  obtain ⟨D₂, vs₂, rfl, ⟨n₂, p₂⟩, a₂⟩ := h₂
  refine hNo ?_
  clear hNo
  have l₁ := a₁.length; have l₂ := a₂.length
  rw [Array.length_toList] at l₁ l₂
  refine P.add_list (F.has _ _ p₁) (F.has _ _ p₂) ?_ (by rw [sizeLine_eq]; omega)
  have F₁ := F.push (tk := s.toks) { cls := .type "list", data := .seq (vs₁ ++ vs₂) }
  obtain ⟨R', G', F₂, hB⟩ := F₁.adopt (Heap.get?_push_size _ rfl) (F.none_of (get_size_none _)).2 (fresh_notin fun x hx => by
    rcases List.mem_cons.mp hx with rfl | hx
    · exact ns_live F.ns
    · exact hX x hx)
  refine h R' _ _ G' F₂ ⟨_, vs₁ ++ vs₂, rfl, ⟨_, hB⟩, ?_⟩ (sub_push _ _) rfl
  rw [Array.toList_append]
  exact (All2.mono (fun _ _ y => y.keeps G'.sub) a₁).append (All2.mono (fun _ _ y => y.keeps G'.sub) a₂)
end
end Mine
end
section
open PySem PySem.W PySem.Calls PyProof.Rows
set_option maxRecDepth 100000
set_option linter.unusedVariables false
set_option linter.unusedSimpArgs false
namespace Mine

/-! ## _law_items, what it does -/
noncomputable def lastN (u : List Nat) : Nat := u.getLastD 0
noncomputable def sizeFrom (us : List (List Nat)) : Nat → Nat → Nat
  | 0, n => n
  | f + 1, n => if n < us.length ∧ checkPure (us.take n).flatten = false then sizeFrom us f (n + 1) else n
noncomputable def sizeU (us : List (List Nat)) : Nat := sizeFrom us us.length 1
noncomputable def runOf (w : List Nat) : Run := w.map fun c => (c, 1)

inductive Items (i : Nat) : Nat → List (List Nat) → List Run → Prop
  | nil {d} : Items i d [] []
  | pair {d u us n first second rest} : sizeU (u :: us) = n → 1 < n → Items i d (us.take (n - 2)) [first, second] → first.length ≤ 500 → second.length ≤ 500 → Items i (d + 1) ((u :: us).drop n) rest →
      Items i (d + 1) (u :: us) ((first ++ second ++ undoneP first ++ undoneP second) :: rest)
  | skip {d u us rest} : sizeU (u :: us) = 1 → (lastN u = 40 ∨ (lastN u : Int) ∈ b1L) → Items i d us rest → Items i d (u :: us) rest
  | one {d u us rest j} : sizeU (u :: us) = 1 → j < 9 → lastN u = (signP i j).1 → lastN u ≠ 40 → (lastN u : Int) ∉ b1L → Items i d us rest →
      Items i d (u :: us) ((if u.length = 2 then undoneP (runOf (signP i j).2) else runOf (signP i j).2) :: rest)

noncomputable def IsRuns (h : Heap) (v : Value) (l : List Run) : Prop := ∃ D vs, v = .ref D ∧ h.PlainList D vs ∧ All2 (fun v r => IsRun h v r) vs.toList l

noncomputable def it18 : List Stmt := match (fn 18).body.getD 2 (.Pass ⟨0, 0, 0, 0⟩) with | .While _ b _ _ => b | _ => []
noncomputable abbrev e18 (L a : Addr) (cd : Value) : Env := envOf (fn 18).name (fn 18).scope L a cd

section
variable {prog : Program} {w : World} {A : Around} {s s₀ : Shared} {R R₀ : Heap} {L D a : Addr} {cd : Value} {m : Str → Option Value} {mg mb : Str → Option Value}

/-- where _law_items stands -/
structure ItS (s₀ : Shared) (R₀ : Heap) (D L : Addr) (v : Value) (p : Nat) (acc : List Run) (R : Heap) (m : Str → Option Value) (s : Shared) : Prop where
  grow : Grow R₀ R s₀.heap
  fm : Fm s₀ R [D] L m s
  units : m "units" = some v
  place : ∃ t, m "place" = some (.int (p : Int) t)
  items : m "items" = some (.ref D)
  mak : IsMaking IsRun R s.heap D acc
variable {v : Value} {p : Nat} {acc : List Run}
theorem ItS.hX (x : ItS s₀ R₀ D L v p acc R m s) : ∀ y ∈ [D], (s.heap.get? y).isSome = true := fun y hy => by
  obtain rfl := List.mem_singleton.mp hy; exact making_live x.mak
theorem ItS.ne (x : ItS s₀ R₀ D L v p acc R m s) : L ≠ D := by
  rintro rfl
  refine Classical.byContradiction fun hNo => ?_
  obtain ⟨o, es, ep, ho, hd, _⟩ := x.fm.ns
  obtain ⟨_, ⟨_, ho'⟩, _⟩ := x.mak
  refine hNo ?_
  clear hNo
  rw [ho] at ho'; cases ho'; cases hd
theorem ItS.tok {tk : Nat} (x : ItS s₀ R₀ D L v p acc R m s) : ItS s₀ R₀ D L v p acc R m { s with toks := tk } := ⟨x.grow, x.fm.tok, x.units, x.place, x.items, x.mak⟩
theorem ItS.keep {h' : Heap} {tk : Nat} (x : ItS s₀ R₀ D L v p acc R m s) (k : Sub s.heap h') : ItS s₀ R₀ D L v p acc R m { s with heap := h', toks := tk } :=
  ⟨x.grow, x.fm.keep k, x.units, x.place, x.items, x.mak.at (fun _ _ y => y) (fun o => k D o)⟩
theorem ItS.set {y : Str} {u : Value} {s' : Shared} (x : ItS s₀ R₀ D L v p acc R m s) (F' : Fm s₀ R [D] L (fun z => if z = y then some u else m z) s') (M : Mv [L] s s')
    (h1 : ("units" : Str) ≠ y) (h2 : ("place" : Str) ≠ y) (h3 : ("items" : Str) ≠ y) : ItS s₀ R₀ D L v p acc R (fun z => if z = y then some u else m z) s' :=
  ⟨x.grow, F', by rw [if_neg h1]; exact x.units, by rw [if_neg h2]; exact x.place, by rw [if_neg h3]; exact x.items, x.mak.at (fun _ _ y => y) (M.at (by simpa using Ne.symm x.ne))⟩
theorem ItS.call {R' : Heap} {s' : Shared} (x : ItS s₀ R₀ D L v p acc R m s) (st : Step s s') (g : Grow R R' s.heap) (hs : Sub R' s'.heap) : ItS s₀ R₀ D L v p acc R' m s' :=
  ⟨x.grow.trans g x.fm.step.sub, x.fm.call st g hs x.hX, x.units, x.place, x.items, x.mak.at (fun _ _ y => y.keeps g.sub) (fun o => st.sub D o)⟩

theorem flatten_le {k : Nat} : ∀ {l : List (List Nat)}, (∀ c ∈ l, c.length ≤ k) → l.flatten.length ≤ l.length * k
  | [], _ => by simp
  | c :: l, h => by
    have h1 := h c (by simp)
    have h2 := flatten_le (l := l) (k := k) fun d hd => h d (by simp [hd])
    rw [List.flatten_cons, List.length_append, List.length_cons, Nat.add_mul]; omega

set_option maxHeartbeats 2000000 in
theorem inner (G : GE prog w mg mb R₀) {A : Around} (A' : AOk A 20) {us : List (List Nat)} (hu : IsUnits R₀ v us) (hp : p < us.length) (hlen : us.length ≤ 100) (hul : ∀ u ∈ us, u.length ≤ 2)
    (x : ItS s₀ R₀ D L v p acc R m s) (hs : ∃ t, m "size" = some (.int 1 t)) :
    wpAny (model prog w) A (exec (it18.getD 1 (.Pass ⟨0, 0, 0, 0⟩)) (e18 L a cd)) (fun f s' => f = .next ∧ ∃ R' m', ItS s₀ R₀ D L v p acc R' m' s' ∧ ∃ t, m' "size" = some (.int (sizeU (us.drop p) : Int) t)) NoE s := by
  refine wpWhile (fun q s => ∃ n f R' m', q = us.length + 1 - n ∧ sizeFrom (us.drop p) f n = sizeU (us.drop p) ∧ (us.drop p).length ≤ n + f ∧ n ≤ us.length ∧ ItS s₀ R₀ D L v p acc R' m' s ∧ ∃ t, m' "size" = some (.int (n : Int) t)) us.length
    ⟨1, (us.drop p).length, R, m, rfl, rfl, by omega, by omega, x, hs⟩ ?_
  intro q s hJo
  refine Classical.byContradiction fun hNo => ?_
  obtain ⟨n, f, R', m', hq, hsz, hnf, hnl, x, t, hst⟩ := hJo
  refine hNo ?_
  clear hNo
  obtain ⟨tp, hpl⟩ := x.place
  have GG := G.keeps x.grow.sub
  have hdl : (us.drop p).length = us.length - p := List.length_drop
  have hu' := hu.keeps x.grow.sub
  refine Classical.byContradiction fun hNo => ?_
  obtain ⟨D₀, vs, rfl, hpv, hall⟩ := id hu'
  refine hNo ?_
  clear hNo
  have hsize : vs.size = us.length := by have := hall.length; rwa [Array.length_toList] at this
  refine isTrue_and ?_
  refine wpAny_isTrue_Compare1 ?_
  refine wpAny_BinOp (nmL x.fm (by exact hpl) (nmL x.fm (by exact hst) (wpAny_add_int ?_)))
  have x := x.tok (tk := s.toks + 1)
  refine Call_ (nmB x.fm GG.g GG.b GG.len.1 GG.len.2 (PyProof.Rows.callWith_builtin1 (args_cons (nmL x.fm (by exact x.units) (args_nil ?_))) rfl rfl))
  refine call_len_list (hpv.at fun o e => x.fm.has _ o e).isList (by omega) (PySem.P.lt_int (wpAny_truthy_bool ?_))
  have x := x.tok (tk := s.toks + 1 + 1 + 1)
  have e1 : decide ((p : Int) + (n : Int) < (vs.size : Int)) = decide (n < (us.drop p).length) := by rw [hsize, hdl]; simp; omega
  rw [e1]
  by_cases hlt : n < (us.drop p).length
  case neg =>
    refine wp_if_f (by simp only [hlt, decide_false]) ?_
    refine ⟨rfl, R', m', x, t, ?_⟩
    have : sizeFrom (us.drop p) f n = n := by
      cases f with
      | zero => rfl
      | succ f => rw [sizeFrom, if_neg fun h => hlt h.1]
    rw [this] at hsz; rw [← hsz]; exact hst
  refine wp_if_t (by simp only [hlt, decide_true]) ?_
  refine Classical.byContradiction fun hNo => ?_
  obtain ⟨f, rfl⟩ : ∃ g, f = g + 1 := ⟨f - 1, by omega⟩
  refine hNo ?_
  clear hNo
  refine isTrue_and ?_
  refine isTrue_not ?_
  refine isTrue_plain ?_
  refine callF x.fm GG.g (GG.fns 7 (by simp)) rfl ?_
  refine args_cons ?_ (se_Call ..)
  refine joinCall rfl rfl ?_
  refine sliceUnits (us := us) (v := .ref D₀) (a := p) (b := p + n) (Qm := fun _ => True) (by omega) ?_ (fun _ _ => rfl)
  have x := x.tok (tk := s.toks + 1 + 1 + 1 + 1)
  refine nmL x.fm (by exact x.units) (nmL x.fm (by exact hpl) (wpAny_BinOp (nmL x.fm (by exact hpl) (nmL x.fm (by exact hst) (wpAny_add_int ?_)))))
  refine ⟨rfl, ⟨_, rfl⟩, ⟨_, by rw [Int.natCast_add]⟩, hu'.keeps x.fm.has, fun h' k' hU _ => ?_⟩
  have x := x.keep (tk := s.toks + 1 + 1 + 1 + 1 + 1) k'
  have e2 : (us.drop p).take (p + n - p) = (us.drop p).take n := by rw [Nat.add_sub_cancel_left]
  rw [e2] at hU
  refine Classical.byContradiction fun hNo => ?_
  obtain ⟨D₁, vs₁, hD₁, ⟨n₁, hp₁⟩, al₁⟩ := hU
  refine hNo ?_
  clear hNo
  refine ⟨D₁, _, hD₁, ⟨vs₁.toList, ⟨_, n₁, hp₁, rfl, rfl, rfl⟩, al₁⟩, by rw [List.length_take]; omega, fun c hc => ?_, fun t' tk => ?_⟩
  · have := hul c (List.mem_of_mem_drop (List.mem_of_mem_take hc)); omega
  have x := x.tok (tk := tk)
  refine args_nil ⟨x.fm.has, fun a' ha' => ?_⟩
  refine wpAny_mono (check_spec GG (A'.le (by omega)) x.fm.has a' ha' ?_) (fun v s₁ h₁ => ?_) fun _ _ q => q
  · have := flatten_le (l := (us.drop p).take n) (k := 2) fun c hc => hul c (List.mem_of_mem_drop (List.mem_of_mem_take hc))
    rw [List.length_take] at this; omega
  refine Classical.byContradiction fun hNo => ?_
  obtain ⟨st, R₂, G₂, S₂, rfl⟩ := h₁
  refine hNo ?_
  clear hNo
  have x := x.call st G₂ S₂
  refine wpAny_truthy_bool ?_
  cases hc : checkPure ((us.drop p).take n).flatten with
  | true =>
    refine ⟨rfl, R₂, m', x, t, ?_⟩
    rw [sizeFrom, if_neg (by simp [hc])] at hsz
    rw [← hsz]; exact hst
  | false =>
    refine isTrue_and_nil ?_
    refine wp_if_t rfl ?_
    refine wpAny_execs_cons (wpAny_AugAssign_Name (ldL x.fm (by exact hst) (wpAny_Constant_int (wpAny_iadd_int (stL x.fm.tok fun s₂ F₂ M₂ => ?_)))))
    refine wpAny_execs_nil ⟨us.length + 1 - (n + 1), by omega, n + 1, f, R₂, _, rfl, ?_, by omega, by omega, x.set F₂ ⟨M₂.kb, M₂.gens⟩ (by decide) (by decide) (by decide), _, rfl⟩
    rw [sizeFrom, if_pos ⟨hlt, hc⟩] at hsz
    exact hsz
end
end Mine
end
section
open PySem PySem.W PySem.Calls PyProof.Rows
set_option maxRecDepth 100000
set_option linter.unusedVariables false
set_option linter.unusedSimpArgs false
namespace Mine

noncomputable def if18 : Stmt := it18.getD 3 (.Pass ⟨0, 0, 0, 0⟩)
noncomputable def then18 : List Stmt := match if18 with | .If _ b _ _ => b | _ => []
noncomputable def else18 : List Stmt := match if18 with | .If _ _ b _ => b | _ => []

section
variable {prog : Program} {w : World} {A : Around} {s s₀ : Shared} {R R₀ : Heap} {L D a : Addr} {cd : Value} {m : Str → Option Value} {mg mb : Str → Option Value}
variable {v : Value} {p : Nat} {acc : List Run}

theorem ItS.to {m' : Str → Option Value} {s' : Shared} (x : ItS s₀ R₀ D L v p acc R m s) (F' : Fm s₀ R [D] L m' s') (M : Mv [L] s s') (h1 : m' "units" = m "units") (h2 : m' "place" = m "place") (h3 : m' "items" = m "items") : ItS s₀ R₀ D L v p acc R m' s' :=
  ⟨x.grow, F', h1.trans x.units, by rw [h2]; exact x.place, h3.trans x.items, x.mak.at (fun _ _ y => y) (M.at (by simpa using Ne.symm x.ne))⟩
theorem ItS.grown {R' : Heap} {s' : Shared} (x : ItS s₀ R₀ D L v p acc R m s) (g : Grow R R' s₀.heap) (F' : Fm s₀ R' [D] L m s') (k : Sub s.heap s'.heap) : ItS s₀ R₀ D L v p acc R' m s' :=
  ⟨x.grow.trans g (Sub.refl _), F', x.units, x.place, x.items, x.mak.at (fun _ _ y => y.keeps g.sub) (fun o => k D o)⟩

/-- eval of a call of _law_undone -/
theorem undoneCall (G : GE prog w mg mb R₀) {A : Around} (hA : AOk A 10) {x : Str} {np xp pos : Pos} {r : Run} {rv : Value} {Q : Value → Shared → Prop} (I : ItS s₀ R₀ D L v p acc R m s) (hx : m x = some rv) (hr : IsRun R rv r) (hn : r.length ≤ 10000)
    (h : ∀ R' v' s', ItS s₀ R₀ D L v p acc R' m s' → Sub R R' → IsRun R' v' (undoneP r) → Q v' s')
    (hl : (e18 L a cd).kindOf x = some .local) (hd : (x == ("__debug__" : Str)) = false) :
    wpAny (model prog w) A (eval (.Call (.Name "_law_undone" np) [.Name x xp] [] pos) (e18 L a cd)) Q NoE s := by
  have GG := G.keeps I.grow.sub
  refine callF I.fm GG.g (GG.fns 17 (by simp)) rfl ?_
  refine args_cons (nmL I.fm hx (args_nil ⟨I.fm.has, fun a' ha' => ?_⟩) hl rfl rfl hd)
  refine wpAny_mono (undone_spec GG (hA.le (by omega)) I.fm.has a' ha' hr hn) (fun v' s₁ h₁ => ?_) fun _ _ q => q
  refine Classical.byContradiction fun hNo => ?_
  obtain ⟨st, R₂, G₂, S₂, hr₂⟩ := h₁
  refine hNo ?_
  clear hNo
  exact h R₂ v' s₁ (I.call st G₂ S₂) G₂.sub hr₂

theorem itemsAppend {A : Around} {e : Expr} {pos cpos apos ip : Pos} {Q : Flow → Shared → Prop} (I : ItS s₀ R₀ D L v p acc R m s) (hn : acc.length ≤ 10000)
    (h : wpAny (model prog w) A (eval e (e18 L a cd)) (fun rv s₁ => ∃ R' m' r, ItS s₀ R₀ D L v p acc R' m' s₁ ∧ IsRun R' rv r ∧ ∀ s₂, ItS s₀ R₀ D L v p (acc ++ [r]) R' m' s₂ → Q .next s₂) NoE s)
    (hst : starEach [e] (e18 L a cd) = [(false, eval e (e18 L a cd))]) (hline : (apos.endLine == cpos.line) = true) (hsw : swapsWith (.Call (.Attribute (.Name "items" ip) "append" apos) [e] [] cpos) none pos.line (e18 L a cd) = pure false) :
    wpAny (model prog w) A (exec (.Expr (.Call (.Attribute (.Name "items" ip) "append" apos) [e] [] cpos) pos) (e18 L a cd)) Q NoE s := by
  refine wpAny_Expr_any (wpAny_Call_append rfl (by rw [hst]; rfl) hline (by rw [hst]; rfl) (nmL I.fm (by exact I.items) ?_)) rfl hsw
  refine Classical.byContradiction fun hNo => ?_
  obtain ⟨vs, ⟨n, ho⟩, al⟩ := I.mak
  refine hNo ?_
  clear hNo
  refine ⟨D, vs.toArray, rfl, ⟨_, n, ho, rfl, rfl, rfl⟩, wpAny_mono h (fun rv s₁ h₁ => ?_) fun _ _ q => q⟩
  refine Classical.byContradiction fun hNo => ?_
  obtain ⟨R', m', r, I', hr, hq⟩ := h₁
  refine hNo ?_
  clear hNo
  refine IsMaking.app (P := IsRun) I'.mak hr (by omega) fun h' hm hs => hq _ ⟨I'.grow, I'.fm.other (KB.of_same hs (by simp)) (by simpa using I'.ne), I'.units, I'.place, I'.items, hm⟩

set_option maxHeartbeats 2000000 in
theorem pairPart (G : GE prog w mg mb R₀) {A : Around} (A' : AOk A 20) {us : List (List Nat)} (hu : IsUnits R₀ v us) (hlen : us.length ≤ 100) {n : Nat} {first second : Run} (hn1 : 1 < n)
    (rec : ∀ (R : Heap) (s : Shared) (v' : Value) (a' : Addr), GE prog w mg mb R → Sub R s.heap → mg "_law_items" = some (.ref a') → IsUnits R v' ((us.drop (p + 1)).take (n - 2)) →
      wpAny (model prog w) A (call (.ref a') [v']) (Ret s R (fun R' v => IsRuns R' v [first, second])) NoE s)
    (hf : first.length ≤ 500) (hs : second.length ≤ 500) (hacc : acc.length ≤ 1000)
    (x : ItS s₀ R₀ D L v p acc R m s) {ts : Tok} (hsz : m "size" = some (.int (n : Int) ts)) :
    wpAny (model prog w) A (execs then18 (e18 L a cd)) (fun f s' => f = .next ∧ ∃ R' m', ItS s₀ R₀ D L v p (acc ++ [first ++ second ++ undoneP first ++ undoneP second]) R' m' s' ∧ ∃ t, m' "size" = some (.int (n : Int) t)) NoE s := by
  obtain ⟨tp, hpl⟩ := x.place
  have GG := G.keeps x.grow.sub
  have hu' := hu.keeps x.grow.sub
  refine wpAny_execs_cons ?_
  refine AssignCall ?_
  refine callF x.fm GG.g (GG.fns 18 (by simp)) rfl ?_
  refine args_cons ?_ (se_Sub ..)
  refine sliceUnits (us := us) (v := v) (a := p + 1) (b := p + n - 1) (Qm := fun _ => True) (by omega) ?_ (fun _ _ => rfl)
  refine nmL x.fm (by exact x.units) (wpAny_BinOp (nmL x.fm (by exact hpl) (wpAny_Constant_int (wpAny_add_int ?_))))
  have x := x.tok (tk := s.toks + 1 + 1)
  refine wpAny_BinOp (wpAny_BinOp (nmL x.fm (by exact hpl) (nmL x.fm (by exact hsz) (wpAny_add_int ?_))))
  refine wpAny_Constant_int (P.sub_int ?_)
  have x := x.tok (tk := s.toks + 1 + 1 + 1 + 1 + 1)
  refine ⟨rfl, ⟨_, by rw [Int.natCast_add]; rfl⟩, ⟨_, by rw [show ((p + n - 1 : Nat) : Int) = (p : Int) + n - 1 by omega]⟩, hu'.keeps x.fm.has, fun h' k' hU hz => ?_⟩
  have x₁ := x.keep (tk := s.toks + 1 + 1 + 1 + 1 + 1) k'
  rw [show p + n - 1 - (p + 1) = n - 2 by omega] at hU
  refine Classical.byContradiction fun hNo => ?_
  obtain ⟨D₁, vs₁, hD₁, ⟨n₁, hp₁⟩, al₁⟩ := hU
  refine hNo ?_
  clear hNo
  cases hD₁
  have hnone : s.heap.get? (s.heap.objs.size + 1) = none := get_ge_none (Nat.le_succ _)
  obtain ⟨R₂, G₂, F₂, hT⟩ := x₁.fm.adopt hp₁ (x.fm.none_of (D := s.heap.objs.size + 1) hnone).2 (by
    simp only [List.mem_cons, List.not_mem_nil, or_false]
    rintro (e | e)
    · have := ns_live x.fm.ns; rw [← e] at this; rw [hnone] at this; cases this
    · have := making_live x.mak; rw [← e] at this; rw [hnone] at this; cases this)
  have x₂ := x₁.grown G₂ F₂ (Sub.refl _)
  refine args_nil ⟨x₁.fm.has, fun a' ha' => ?_⟩
  refine wpAny_mono (rec R₂ _ _ a' (GG.keeps G₂.sub) x₂.fm.has ha' ⟨_, vs₁, rfl, ⟨n₁, hT⟩, al₁⟩) (fun v₂ s₂ h₂ => ?_) fun _ _ q => q
  refine Classical.byContradiction fun hNo => ?_
  obtain ⟨st, R₃, G₃, S₃, Dr, vr, rfl, hpr, alr⟩ := h₂
  refine hNo ?_
  clear hNo
  have x₃ := x₂.call st G₃ S₃
  obtain ⟨w1, w2, hvr⟩ : ∃ w1 w2, vr = #[w1, w2] := by
    have := alr.length
    rw [Array.length_toList] at this
    obtain ⟨l⟩ := vr
    match l, this with
    | [w1, w2], _ => exact ⟨w1, w2, rfl⟩
  subst hvr
  refine Classical.byContradiction fun hNo => ?_
  obtain ⟨hw1, hw2, _⟩ := alr
  refine hNo ?_
  clear hNo
  refine assignLst (k := 0) (xs := [("first", ⟨103, 12, 103, 17⟩), ("second", ⟨103, 19, 103, 25⟩)]) A'.hh x₃.fm (hpr.at fun o e => x₃.fm.has _ o e).isList rfl (by simp only [List.mem_cons, List.not_mem_nil, or_false]; rintro x (rfl | rfl) <;> rfl) rfl rfl fun s₄ F₄ M₄ => ?_
  have x₄ := x₃.to F₄ M₄ rfl rfl rfl
  have GG₄ := G.keeps x₄.grow.sub
  refine wpAny_execs_cons ?_
  refine itemsAppend x₄ (by omega) ?_ rfl rfl rfl
  refine wpAny_BinOp (wpAny_BinOp (wpAny_BinOp (nmL x₄.fm rfl (nmL x₄.fm rfl ?_))))
  refine addRun x₄.fm x₄.hX hw1 hw2 (by omega) fun R₅ v₅ s₅ g₅ F₅ hr₅ k₅ _ => ?_
  have x₅ := x₄.grown g₅ F₅ k₅
  refine undoneCall G (A'.le (by omega)) x₅ rfl (hw1.keeps g₅.sub) (by omega) (fun R₆ v₆ s₆ x₆ k₆ hr₆ => ?_) rfl rfl
  have hu1 : (undoneP first).length = first.length := by simp [undoneP]
  have hu2 : (undoneP second).length = second.length := by simp [undoneP]
  refine addRun x₆.fm x₆.hX (hr₅.keeps k₆) hr₆ (by simp; omega) fun R₇ v₇ s₇ g₇ F₇ hr₇ k₇ _ => ?_
  have x₇ := x₆.grown g₇ F₇ k₇
  refine undoneCall G (A'.le (by omega)) x₇ rfl (((hw2.keeps g₅.sub).keeps k₆).keeps g₇.sub) (by omega) (fun R₈ v₈ s₈ x₈ k₈ hr₈ => ?_) rfl rfl
  refine addRun x₈.fm x₈.hX (hr₇.keeps k₈) hr₈ (by simp; omega) fun R₉ v₉ s₉ g₉ F₉ hr₉ k₉ _ => ?_
  have x₉ := x₈.grown g₉ F₉ k₉
  exact ⟨R₉, _, _, x₉, hr₉, fun s₁₀ x₁₀ => wpAny_execs_nil ⟨rfl, R₉, _, x₁₀, ts, hsz⟩⟩
end
end Mine
end
section
open PySem PySem.W PySem.Calls PyProof.Rows
set_option maxRecDepth 100000
set_option linter.unusedVariables false
set_option linter.unusedSimpArgs false
namespace Mine

section
variable {prog : Program} {w : World} {A : Around} {s s₀ : Shared} {env : Env} {R : Heap} {X : List Addr} {L : Addr} {m : Str → Option Value} {mg mb : Str → Option Value}

theorem strWalks (hh : A.handled = none) (I : Addr) (x : Str) (t : Tok) : Walks prog w A I [I] [I] x.cps.size (SignAt x) (fun i h => h.IsStrIter I (strIterType x) x t i) := by
  unfold strIterType
  by_cases h : x.cps.all (· < 128) = true
  · rw [if_pos h]; exact Walks.strAscii hh I x t
  · rw [if_neg h]; exact Walks.strWide hh I x t

theorem Fm.storeComp {D C : Addr} {mc : Str → Option Value} {y : Str} {py : Pos} {Q : Flow → Shared → Prop} (Fc : Fm s₀ R (D :: L :: X) C mc s) (hn : s.heap.Ns L m) (hLC : L ≠ C) (hLD : L ≠ D) (hLX : L ∉ X)
    (hl : env.kindOf y = some .local) (hk : env.scope.kind = .function) (hL : env.locals = L)
    (h : ∀ s', Fm s₀ R (D :: X) L (fun z => if z = y then some (.ref D) else m z) s' → (∀ b, b ≠ L → b ≠ C → ∀ o, s.heap.get? b = some o → s'.heap.get? b = some o) → s'.gens = s.gens → Q .next s') :
    doneA prog w A env y py Q D C s := by
  have F₁ : Fm s₀ R (C :: D :: X) L m s := ⟨Fc.step, hn, Fc.has, fun x hx => Fc.out x (by
    simp only [List.mem_cons] at hx ⊢
    rcases hx with rfl | rfl | rfl | hx
    · simp
    · simp
    · simp
    · simp [hx])⟩
  refine wpAny_assign_Name (stL F₁ (fun s₂ F₂ M₂ => ?_) hl hk hL)
  refine ⟨mc, Fc.ns.at' fun o e => M₂.kb C o (by simpa using Ne.symm hLC) e, fun h' k => h _ ((F₂.other (tk := s₂.toks) (KB.of_same k (by simp)) (by simp [hLC, hLD, hLX])).drop (fun z hz => List.mem_cons_of_mem _ hz)) (fun b hbL hbC o e => k.extBut b o hbC (M₂.kb b o (by simpa using hbL) e)) M₂.gens⟩

/-- the list of a comprehension goes into the reference -/
theorem Fm.adoptMade {α : Type} {P : Heap → Value → α → Prop} {D : Addr} {l : List α} (F : Fm s₀ R (D :: X) L m s) (hDX : D ∉ L :: X) (x : IsMaking P R s.heap D l) (hP : ∀ R' v a, Sub R R' → P R v a → P R' v a) :
    ∃ R', Grow R R' s₀.heap ∧ Fm s₀ R' X L m s ∧ ∃ vs, R'.PlainList D vs ∧ All2 (fun v a => P R' v a) vs.toList l := by
  refine Classical.byContradiction fun hNo => ?_
  obtain ⟨vs, ⟨n, ho⟩, al⟩ := x
  obtain ⟨R', G', F', h'⟩ := (F.drop (Y := X) fun y hy => List.mem_cons_of_mem _ hy).adopt ho (F.out D (by simp)).2 hDX
  refine hNo ?_
  clear hNo
  exact ⟨R', G', F', vs.toArray, ⟨n, h'⟩, All2.mono (fun _ _ y => hP R' _ _ G'.sub y) al⟩

/-- u[-1] -/
theorem lastCh {x : Str} {p1 p2 p3 p4 : Pos} {k : Nat} {u : List Nat} {tu : Tok} {Q : Value → Shared → Prop} (F : Fm s₀ R X L m s) (hx : m x = some (.str ⟨u.toArray⟩ tu)) (hu : u ≠ []) (hn : u.length ≤ 1000)
    (h : ∀ t tk, Q (.str ⟨#[lastN u]⟩ t) { s with toks := tk })
    (hl : env.kindOf x = some .local) (hk : env.scope.kind = .function) (hL : env.locals = L) (hd : (x == ("__debug__" : Str)) = false) :
    wpAny (model prog w) A (eval (.Subscript (.Name x p1) (.UnaryOp .USub (.Constant (.int 1) k p2) p3) p4) env) Q NoE s := by
  refine Subscript_ (nmL F hx ?_ hl hk hL hd)
  refine wpAny_UnaryOp (wpAny_Constant_int (P.neg_int ?_))
  refine subscriptTail_builtin (typeIs_str _ _ _) PySem.F.slot_str_getitem.lookup ?_ rfl (fun _ => rfl)
  have hlen : 0 < u.length := List.length_pos_iff.mpr hu
  have h1 : (⟨u.toArray⟩ : Str).length = u.length := strLen u
  refine P.getItem_str (c := lastN u) (by decide) ?_ (h _ _)
  rw [h1]
  have e : seqIndex? (-1) u.length = some (u.length - 1) := by
    unfold seqIndex?
    have e1 : (if (-1 : Int) < 0 then (-1 : Int) + (u.length : Int) else -1) = ((u.length - 1 : Nat) : Int) := by rw [if_pos (by decide)]; omega
    simp only [e1]
    rw [if_pos (by simp; omega)]
    rfl
  rw [e]
  show (u.toArray)[u.length - 1]? = some (lastN u)
  rw [List.getElem?_toArray, lastN, List.getLastD_eq_getLast?, List.getLast?_eq_getElem?, List.getElem?_eq_getElem (by omega)]
  rfl
end
end Mine
end
section
open PySem PySem.W PySem.Calls PyProof.Rows
set_option maxRecDepth 100000
set_option linter.unusedVariables false
set_option linter.unusedSimpArgs false
namespace Mine

noncomputable def one18 : List Stmt := match else18 with | [.If _ b _ _] => b | _ => []
section
variable {prog : Program} {w : World} {A : Around} {s s₀ : Shared} {R R₀ : Heap} {L D a : Addr} {cd : Value} {m : Str → Option Value} {mg mb : Str → Option Value}
variable {v : Value} {p : Nat} {acc : List Run}

/-- the test of a single unit -/
theorem test18 (G : GE prog w mg mb R₀) {A : Around} (A' : AOk A 10) {u : List Nat} {tu : Tok} (hne : u ≠ []) (hul : u.length ≤ 2) (x : ItS s₀ R₀ D L v p acc R m s) (hun : m "unit" = some (.str ⟨u.toArray⟩ tu)) {Q : Flow → Shared → Prop}
    (h : ∀ R' s', ItS s₀ R₀ D L v p acc R' m s' → if lastN u ≠ 40 ∧ (lastN u : Int) ∉ b1L then wpAny (model prog w) A (execs one18 (e18 L a cd)) Q NoE s' else Q .next s') :
    wpAny (model prog w) A (execs else18 (e18 L a cd)) Q NoE s := by
  have GG := G.keeps x.grow.sub
  refine wpAny_execs_cons ?_
  refine wpAny_If ?_
  refine isTrue_and (wpAny_isTrue_Compare1 (lastCh x.fm hun hne (by omega) (fun t tk => ?_) rfl rfl rfl rfl))
  refine wpAny_Constant_str (PySem.P.ne_str (wpAny_truthy_bool ?_))
  have x := x.tok (tk := tk + 1)
  rw [show (((⟨#[lastN u]⟩ : Str)).cps.toList != (("(" : Str)).cps.toList) = decide (lastN u ≠ 40) from by
    show ([lastN u] != [40]) = _
    by_cases h : lastN u = 40 <;> simp [h]]
  by_cases h40 : lastN u = 40
  · refine wp_if_f (by simp only [h40, ne_eq, not_true_eq_false, decide_false]) ?_
    have := h R _ x
    rw [if_neg (by simp [h40])] at this
    exact wpAny_execs_nil (wpAny_execs_nil this)
  · refine wp_if_t (by simp only [h40, ne_eq, not_false_eq_true, decide_true]) ?_
    refine isTrue_and (isTrue_not (isTrue_plain (callF x.fm GG.g (GG.fns 10 (by simp)) rfl ?_)))
    refine args_cons (lastCh x.fm hun hne (by omega) (fun t' tk' => ?_) rfl rfl rfl rfl) (se_Sub ..)
    have x := x.tok (tk := tk')
    refine args_nil ⟨x.fm.has, fun a' ha' => ?_⟩
    refine wpAny_mono (in_b1_spec GG (A'.le (by omega)) x.fm.has a' ha') (fun v s₁ h₁ => ?_) fun _ _ q => q
    refine Classical.byContradiction fun hNo => ?_
    obtain ⟨st, R₂, G₂, S₂, rfl⟩ := h₁
    refine hNo ?_
    clear hNo
    have x := x.call st G₂ S₂
    refine wpAny_truthy_bool ?_
    have := h R₂ _ x
    by_cases hb : (lastN u : Int) ∈ b1L
    · rw [if_neg (by simp [hb])] at this
      refine wp_if_f (by simp only [hb, decide_true, Bool.not_true]) ?_
      exact wpAny_execs_nil (wpAny_execs_nil this)
    · rw [if_pos ⟨h40, hb⟩] at this
      refine wp_if_t (by simp only [hb, decide_false, Bool.not_false]) ?_
      refine isTrue_and_nil ?_
      refine wp_if_t rfl ?_
      exact wpAny_mono this (fun f s' q => by cases f <;> first | exact wpAny_execs_nil q | exact q) fun _ _ q => q

theorem runOf_get {wd : List Nat} {i c : Nat} (h : (⟨wd.toArray⟩ : Str).cps[i]? = some c) : (runOf wd)[i]? = some (c, 1) := by
  have h' : wd[i]? = some c := by simpa using h
  rw [runOf, List.getElem?_map, h']; rfl

set_option maxHeartbeats 2000000 in
/-- [(letter, 1) for letter in map_table_b3(unit[-1])] -/
theorem runComp (G : GE prog w mg mb R₀) {A : Around} (A' : AOk A 10) {u : List Nat} {tu : Tok} {i j : Nat} (hi : i < 4) (hj : j < 9) (hne : u ≠ []) (hul : u.length ≤ 2) (hsg : lastN u = (signP i j).1)
    (x : ItS s₀ R₀ D L v p acc R m s) (hun : m "unit" = some (.str ⟨u.toArray⟩ tu)) {Q : Flow → Shared → Prop}
    (h : ∀ R' s' rv, ItS s₀ R₀ D L v p acc R' (fun z => if z = "run" then some rv else m z) s' → IsRun R' rv (runOf (signP i j).2) → Q .next s') :
    wpAny (model prog w) A (exec (one18.getD 0 (.Pass ⟨0, 0, 0, 0⟩)) (e18 L a cd)) Q NoE s := by
  have GG := G.keeps x.grow.sub
  refine assignL (cl := []) rfl rfl (by decide) rfl (by decide) ?_ (fun _ => rfl)
  refine callF x.fm GG.g (GG.fns 12 (by simp)) rfl ?_
  refine args_cons (lastCh x.fm hun hne (by omega) (fun t' tk' => ?_) rfl rfl rfl rfl) (se_Sub ..)
  have x := x.tok (tk := tk')
  rw [hsg]
  refine args_nil ⟨x.fm.has, fun a' ha' => ?_⟩
  refine wpAny_mono (map_b3_spec GG (A'.le (by omega)) x.fm.has a' ha' hi hj) (fun v₁ s₁ h₁ => ?_) fun _ _ q => q
  refine Classical.byContradiction fun hNo => ?_
  obtain ⟨st, R₂, G₂, S₂, tw, rfl⟩ := h₁
  refine hNo ?_
  clear hNo
  have x := x.call st G₂ S₂
  have hwl := signP_len i hi j hj
  generalize (signP i j).2 = wd at hwl h ⊢
  refine wpAny_pyIter_strU ?_
  have F₃ := x.fm.new (tk := s₁.toks) { cls := .type (strIterType ⟨wd.toArray⟩), data := .fields #[.str ⟨wd.toArray⟩ tw, .int 0 0] }
  have hIt : (s₁.heap.push { cls := .type (strIterType ⟨wd.toArray⟩), data := .fields #[.str ⟨wd.toArray⟩ tw, .int 0 0] }).IsStrIter s₁.heap.objs.size (strIterType ⟨wd.toArray⟩) ⟨wd.toArray⟩ tw 0 := ⟨_, Heap.get?_push_size _ rfl, rfl, rfl⟩
  have hmak₃ : IsMaking IsRun R₂ (s₁.heap.push { cls := .type (strIterType ⟨wd.toArray⟩), data := .fields #[.str ⟨wd.toArray⟩ tw, .int 0 0] }) D acc := x.mak.at (fun _ _ y => y) fun o e => sub_push _ _ _ _ e
  have hLI : L ≠ s₁.heap.objs.size := Nat.ne_of_lt x.fm.lt
  have hDI : D ≠ s₁.heap.objs.size := fun e => by have := making_live x.mak; rw [e, get_size_none] at this; cases this
  have hgr := x.grow
  have hLD := x.ne
  have hun' := x.units
  have hpl' := x.place
  have hit' := x.items
  clear x
  generalize s₁.heap.push { cls := .type (strIterType ⟨wd.toArray⟩), data := .fields #[.str ⟨wd.toArray⟩ tw, .int 0 0] } = H3 at F₃ hIt hmak₃ ⊢
  generalize s₁.heap.objs.size = I at F₃ hIt hLI hDI ⊢
  intro B C h₁ Bg hB
  have Fc := F₃.into Bg
  have hLC : L ≠ C := by rintro rfl; have := Bg.hC; obtain ⟨o, _, _, ho, _⟩ := F₃.ns; rw [ho] at this; cases this
  have hLB : L ≠ B := by rintro rfl; have := Bg.hD; obtain ⟨o, _, _, ho, _⟩ := F₃.ns; rw [ho] at this; cases this
  have hIC : I ≠ C := by rintro rfl; have := Bg.hC; obtain ⟨o, ho, _⟩ := hIt; rw [ho] at this; cases this
  have hIB : I ≠ B := by rintro rfl; have := Bg.hD; obtain ⟨o, ho, _⟩ := hIt; rw [ho] at this; cases this
  have hDC : D ≠ C := by rintro rfl; have := Bg.hC; have h2 := making_live hmak₃; rw [this] at h2; cases h2
  have hDB : D ≠ B := by rintro rfl; have := Bg.hD; have h2 := making_live hmak₃; rw [this] at h2; cases h2
  refine turnsW (monoL (A := A)) (strWalks A'.hh I ⟨wd.toArray⟩ tw) Fc (strIter_stable 0 _ _ (fun o => Bg.sub I o) hIt) (by simp) (by simp [Ne.symm Bg.ne, Ne.symm hLC, Ne.symm hIC, Ne.symm hDC]) (by simp [Ne.symm hIC])
    rfl rfl rfl [B] (by simp [Ne.symm hIB])
    (fun i R s => IsMaking IsLT R s.heap B ((runOf wd).take i) ∧ s.heap.Ns L m ∧ IsMaking IsRun R s.heap D acc) ⟨⟨[], hB, trivial⟩, F₃.ns.keeps Bg.sub, hmak₃.at (fun _ _ y => y) (fun o => Bg.sub D o)⟩
    (fun i R s s' h M => ⟨h.1.at (fun _ _ y => y) (M.at (by simp [Ne.symm hIB, Bg.ne])), h.2.1.at' (M.at (by simp [hLI, hLC])), h.2.2.at (fun _ _ y => y) (M.at (by simp [hDI, hDC]))⟩)
    (fun k vv m₁ R₂ s₁ hk hP G₂ J hst F₄ => ?_) fun m₁ R₂ s₁ G₂ F₄ J => ?_
  · obtain ⟨c, uc, hc, rfl⟩ := hP
    refine wpAny_tests_nil ?_
    rw [if_pos rfl]
    refine Tuple_ (args_cons (nmL F₄ rfl (args_cons (wpAny_Constant_int (args_nil (wpAny_newTuple ?_))))))
    have F₅ := F₄.push (tk := s₁.toks + 1) { cls := .type "tuple", data := .seq #[.str ⟨#[c]⟩ uc, .int 1 s₁.toks] }
    have hTX : s₁.heap.objs.size ∉ C :: [B, L, I, D] := fresh_notin (by
      simp only [List.mem_cons, List.not_mem_nil, or_false]
      rintro x (rfl | rfl | rfl | rfl | rfl)
      · exact ns_live F₄.ns
      · exact making_live J.1
      · exact ns_live J.2.1
      · obtain ⟨o, ho, _⟩ := hst; rw [ho]; rfl
      · exact making_live J.2.2)
    refine Classical.byContradiction fun hNo => ?_
    obtain ⟨R₃, G₃, F₆, hT⟩ := F₅.adopt (Heap.get?_push_size _ rfl) (F₄.none_of (get_size_none _)).2 hTX
    refine hNo ?_
    clear hNo
    refine IsMaking.app (P := IsLT) (R := R₃) (l := (runOf wd).take k) (a := (c, 1)) (J.1.at (fun _ _ y => y.keeps G₃.sub) fun o e => sub_push _ _ _ _ e) ⟨_, uc, _, rfl, _, hT, rfl, _, rfl⟩ (by simp [runOf]; omega) fun h' hm hs' => ?_
    refine ⟨_, R₃, G₃, F₆.other (KB.of_same hs' (by simp)) (by simp [Ne.symm Bg.ne, Ne.symm hLC, Ne.symm hIC, Ne.symm hDC]), ⟨?_, (J.2.1.push _).at' fun o e => hs'.extBut L o hLB e, (J.2.2.at (fun _ _ y => y.keeps G₃.sub) fun o e => hs'.extBut D o hDB (sub_push _ _ _ _ e))⟩, (KB.of_sub (sub_push _ _)).trans (KB.of_same hs' (by simp))⟩
    rw [take_succ_of (l := runOf wd) (x := (c, 1)) (runOf_get hc)]
    exact hm
  · refine F₄.storeComp J.2.1 hLC hLB (by simp [hLI, hLD]) rfl rfl rfl fun s' F₅ keep gens => ?_
    have hm₅ := J.1.at (fun _ _ y => y) (keep B (Ne.symm hLB) Bg.ne)
    have hd₅ := J.2.2.at (fun _ _ y => y) (keep D (Ne.symm hLD) hDC)
    refine Classical.byContradiction fun hNo => ?_
    obtain ⟨R₃, G₃, F₆, vs, hp, al⟩ := F₅.adoptMade (by simp [Ne.symm hLB, Ne.symm hIB, Ne.symm hDB]) hm₅ fun _ _ _ k y => y.keeps k
    refine hNo ?_
    clear hNo
    have e : (runOf wd).take (⟨wd.toArray⟩ : Str).cps.size = runOf wd := List.take_of_length_le (by simp [runOf])
    rw [e] at al
    exact h R₃ s' (.ref B) ⟨(hgr.trans G₂ (Sub.refl _)).trans G₃ (Sub.refl _), F₆.drop (by simp), hun', hpl', hit', hd₅.at (fun _ _ y => y.keeps G₃.sub) fun _ q => q⟩ ⟨B, vs, rfl, hp, al⟩
end
end Mine
end
section
open PySem PySem.W PySem.Calls PyProof.Rows
set_option maxRecDepth 100000
set_option linter.unusedVariables false
set_option linter.unusedSimpArgs false
namespace Mine

section
variable {prog : Program} {w : World} {A : Around} {s s₀ : Shared} {R R₀ : Heap} {L D a : Addr} {cd : Value} {m : Str → Option Value} {mg mb : Str → Option Value}
variable {v : Value} {p : Nat} {acc : List Run}

set_option maxHeartbeats 1000000 in
theorem onePart (G : GE prog w mg mb R₀) {A : Around} (A' : AOk A 10) {u : List Nat} {tu ts : Tok} {i j n : Nat} (hi : i < 4) (hj : j < 9) (hne : u ≠ []) (hul : u.length ≤ 2) (hsg : lastN u = (signP i j).1) (hacc : acc.length ≤ 1000)
    (x : ItS s₀ R₀ D L v p acc R m s) (hun : m "unit" = some (.str ⟨u.toArray⟩ tu)) (hsz : m "size" = some (.int (n : Int) ts)) :
    wpAny (model prog w) A (execs one18 (e18 L a cd)) (fun f s' => f = .next ∧ ∃ R' m', ItS s₀ R₀ D L v p (acc ++ [if u.length = 2 then undoneP (runOf (signP i j).2) else runOf (signP i j).2]) R' m' s' ∧ ∃ t, m' "size" = some (.int (n : Int) t)) NoE s := by
  refine wpAny_execs_cons ?_
  refine runComp G A' hi hj hne hul hsg x hun fun R₁ s₁ rv x₁ hr => ?_
  have GG := G.keeps x₁.grow.sub
  have hwl := signP_len i hi j hj
  have hrl : (runOf (signP i j).2).length ≤ 2 := by simpa [runOf] using hwl
  refine wpAny_execs_cons ?_
  refine itemsAppend x₁ (by omega) ?_ rfl rfl rfl
  refine IfExp_ (wpAny_isTrue_Compare1 (Call_ (nmB x₁.fm GG.g GG.b GG.len.1 GG.len.2 (PyProof.Rows.callWith_builtin1 (args_cons (nmL x₁.fm (by exact hun) (args_nil ?_))) rfl rfl))))
  refine PySem.P.len_str (by rw [strLen]; omega) (wpAny_Constant_int (PySem.P.eq_int (wpAny_truthy_bool ?_)))
  have x₁ := x₁.tok (tk := s₁.toks + 1 + 1 + 1)
  rw [show ((((⟨u.toArray⟩ : Str).length : Int) == 2) : Bool) = decide (u.length = 2) from by
    rw [strLen]
    by_cases h : u.length = 2
    · simp [h]
    · simp [h]; omega]
  by_cases h2 : u.length = 2
  · simp only [h2, decide_true, if_true]
    refine undoneCall G A' x₁ rfl hr (by omega) (fun R₂ v₂ s₂ x₂ _ hr₂ => ?_) rfl rfl
    exact ⟨R₂, _, _, x₂, hr₂, fun s₃ x₃ => wpAny_execs_nil ⟨rfl, R₂, _, x₃, ts, hsz⟩⟩
  · simp only [h2, decide_false, Bool.false_eq_true, if_false]
    refine nmL x₁.fm rfl ?_
    exact ⟨R₁, _, _, x₁, hr, fun s₃ x₃ => wpAny_execs_nil ⟨rfl, R₁, _, x₃, ts, hsz⟩⟩

theorem ItS.moved {q : Nat} {s' : Shared} {u : Tok} (x : ItS s₀ R₀ D L v p acc R m s) (F' : Fm s₀ R [D] L (fun z => if z = "place" then some (.int (q : Int) u) else m z) s') (M : Mv [L] s s') : ItS s₀ R₀ D L v q acc R (fun z => if z = "place" then some (.int (q : Int) u) else m z) s' :=
  ⟨x.grow, F', by rw [if_neg (by decide)]; exact x.units, ⟨u, rfl⟩, by rw [if_neg (by decide)]; exact x.items, x.mak.at (fun _ _ y => y) (M.at (by simpa using Ne.symm x.ne))⟩

/-- a list of runs comes to nothing else -/
theorem Items.len {i d : Nat} {us : List (List Nat)} {out : List Run} (h : Items i d us out) : out.length ≤ us.length := by
  induction h with
  | nil => simp
  | @pair d u us n first second rest h1 h2 _ _ _ _ _ ih =>
    rw [List.length_cons, List.length_cons]
    have := ih
    rw [List.length_drop, List.length_cons] at this; omega
  | skip _ _ _ ih => rw [List.length_cons]; omega
  | one _ _ _ _ _ _ ih => rw [List.length_cons, List.length_cons]; omega

theorem sizeFrom_le (us : List (List Nat)) : ∀ f n, sizeFrom us f n ≤ max us.length n ∧ n ≤ sizeFrom us f n
  | 0, n => ⟨Nat.le_max_right _ _, Nat.le_refl _⟩
  | f + 1, n => by
    rw [sizeFrom]
    split
    · rename_i h
      have := sizeFrom_le us f (n + 1)
      omega
    · exact ⟨Nat.le_max_right _ _, Nat.le_refl _⟩

/-- one lap of _law_items, up to place += size -/
noncomputable def Lap (prog : Program) (w : World) (s₀ : Shared) (R₀ : Heap) (D L : Addr) (v : Value) (p : Nat) (acc : List Run) (n : Nat) : Flow → Shared → Prop :=
  fun f s' => f = .next ∧ ∃ R' m', ItS s₀ R₀ D L v p acc R' m' s' ∧ ∃ t, m' "size" = some (.int (n : Int) t)

set_option maxHeartbeats 4000000 in
theorem lap (G : GE prog w mg mb R₀) {A : Around} (A' : AOk A 20) {us : List (List Nat)} (hu : IsUnits R₀ v us) (hlen : us.length ≤ 100) (hul : ∀ u ∈ us, u ≠ [] ∧ u.length ≤ 2) (hp : p < us.length) (hacc : acc.length ≤ 1000)
    (x : ItS s₀ R₀ D L v p acc R m s) {acc' : List Run}
    (h3 : ∀ (R : Heap) (m : Str → Option Value) (s : Shared) ts tu u, us[p]? = some u → ItS s₀ R₀ D L v p acc R m s → m "size" = some (.int (sizeU (us.drop p) : Int) ts) → m "unit" = some (.str ⟨u.toArray⟩ tu) →
      wpAny (model prog w) A (exec if18 (e18 L a cd)) (Lap prog w s₀ R₀ D L v p acc' (sizeU (us.drop p))) NoE s) :
    wpAny (model prog w) A (execs it18 (e18 L a cd)) (fun f s' => f = .next ∧ ∃ R' m', ItS s₀ R₀ D L v (p + sizeU (us.drop p)) acc' R' m' s') NoE s := by
  refine wpAny_execs_cons (wpAny_Assign_Name (wpAny_Constant_int (stL x.fm.tok fun s₁ F₁ M₁ => ?_)))
  have x₁ := x.set F₁ ⟨M₁.kb, M₁.gens⟩ (by decide) (by decide) (by decide)
  refine wpAny_execs_cons ?_
  refine wpAny_mono (inner G A' hu hp hlen (fun u hu => (hul u hu).2) x₁ ⟨_, rfl⟩) (fun f s₂ h₂ => ?_) fun _ _ q => q
  refine Classical.byContradiction fun hNo => ?_
  obtain ⟨rfl, R₂, m₂, x₂, ts, hsz⟩ := h₂
  obtain ⟨tp, hpl⟩ := x₂.place
  obtain ⟨D₀, vs, rfl, hpv, hall⟩ := hu.keeps x₂.grow.sub
  obtain ⟨u, hu'⟩ : ∃ u, us[p]? = some u := ⟨_, List.getElem?_eq_getElem hp⟩
  obtain ⟨vu, hvu, tu, rfl⟩ := hall.get' hu'
  refine hNo ?_
  clear hNo
  refine wpAny_execs_cons ?_
  refine wpAny_Assign_Name (Subscript_ (nmL x₂.fm (by exact x₂.units) (nmL x₂.fm (by exact hpl) ?_)))
  refine itemL (hpv.at fun o e => x₂.fm.has _ o e).isList (by omega) (by omega) (x := .str ⟨u.toArray⟩ tu) (by simpa using hvu) ?_
  refine stL x₂.fm fun s₃ F₃ M₃ => ?_
  have x₃ := x₂.set F₃ M₃ (by decide) (by decide) (by decide)
  refine wpAny_execs_cons ?_
  refine wpAny_mono (h3 R₂ _ s₃ ts tu u hu' x₃ (by rw [if_neg (by decide)]; exact hsz) rfl) (fun f s₄ h₄ => ?_) fun _ _ q => q
  refine Classical.byContradiction fun hNo => ?_
  obtain ⟨rfl, R₄, m₄, x₄, ts₄, hsz₄⟩ := h₄
  obtain ⟨tp₄, hpl₄⟩ := x₄.place
  refine hNo ?_
  clear hNo
  refine wpAny_execs_cons (wpAny_AugAssign_Name (ldL x₄.fm (by exact hpl₄) (nmL x₄.fm (by exact hsz₄) (wpAny_iadd_int (stL x₄.fm.tok fun s₅ F₅ M₅ => ?_)))))
  rw [← Int.natCast_add] at F₅
  refine wpAny_execs_nil ⟨rfl, R₄, _, x₄.moved F₅ ⟨M₅.kb, M₅.gens⟩⟩

theorem if18_eq (Q : Flow → Shared → Prop) {A : Around} {ts : Tok} {n : Nat} (x : ItS s₀ R₀ D L v p acc R m s) (hsz : m "size" = some (.int (n : Int) ts))
    (h : ∀ s, ItS s₀ R₀ D L v p acc R m s → if n > 1 then wpAny (model prog w) A (execs then18 (e18 L a cd)) Q NoE s else wpAny (model prog w) A (execs else18 (e18 L a cd)) Q NoE s) :
    wpAny (model prog w) A (exec if18 (e18 L a cd)) Q NoE s := by
  refine wpAny_If (wpAny_isTrue_Compare1 (nmL x.fm (by exact hsz) (wpAny_Constant_int (PySem.P.gt_int (wpAny_truthy_bool ?_)))))
  have x := x.tok (tk := s.toks + 1)
  have := h _ x
  by_cases h1 : n > 1
  · rw [if_pos h1] at this
    rw [show decide ((n : Int) > 1) = true from by simp; omega]
    refine wp_if_t rfl ?_
    exact this
  · rw [if_neg h1] at this
    rw [show decide ((n : Int) > 1) = false from by simp; omega]
    refine wp_if_f rfl ?_
    exact this

noncomputable def ItemsSpec (prog : Program) (w : World) (mg mb : Str → Option Value) (i d : Nat) : Prop :=
  ∀ {A : Around} {s : Shared} {R : Heap} (us : List (List Nat)) (out : List Run) (v : Value) (a : Addr), Items i d us out → GE prog w mg mb R → AOk A (24 + d * 4) → Sub R s.heap → mg "_law_items" = some (.ref a) →
    IsUnits R v us → us.length ≤ 100 → (∀ u ∈ us, u ≠ [] ∧ u.length ≤ 2) → wpAny (model prog w) A (call (.ref a) [v]) (Ret s R (fun R' v => IsRuns R' v out)) NoE s

set_option maxHeartbeats 4000000 in
theorem lapItems {i d : Nat} (hi : i < 4) (G : GE prog w mg mb R₀) {A : Around} (A' : AOk A (23 + d * 4)) (recP : ∀ d', d = d' + 1 → ItemsSpec prog w mg mb i d') {us : List (List Nat)} (hu : IsUnits R₀ v us) (hlen : us.length ≤ 100) (hul : ∀ u ∈ us, u ≠ [] ∧ u.length ≤ 2)
    (hp : p < us.length) (hacc : acc.length ≤ 1000) (x : ItS s₀ R₀ D L v p acc R m s) {rest : List Run} (hI : Items i d (us.drop p) rest) :
    wpAny (model prog w) A (execs it18 (e18 L a cd)) (fun f s' => f = .next ∧ ∃ R' m' p' acc' rest', ItS s₀ R₀ D L v p' acc' R' m' s' ∧ Items i d (us.drop p') rest' ∧ acc ++ rest = acc' ++ rest' ∧ p < p' ∧ p' ≤ us.length) NoE s := by
  have hsz1 := (sizeFrom_le (us.drop p) (us.drop p).length 1)
  have hdl : (us.drop p).length = us.length - p := List.length_drop
  have hb : 1 ≤ sizeU (us.drop p) ∧ p + sizeU (us.drop p) ≤ us.length := by
    unfold sizeU; omega
  have hcons : ∃ u, us[p]? = some u ∧ us.drop p = u :: us.drop (p + 1) := ⟨_, List.getElem?_eq_getElem hp, drop_of (List.getElem?_eq_getElem hp)⟩
  refine Classical.byContradiction fun hNo => ?_
  obtain ⟨u₀, hu₀, hdr⟩ := hcons
  refine hNo ?_
  clear hNo
  have fin : ∀ (acc' rest' : List Run), Items i d (us.drop (p + sizeU (us.drop p))) rest' → acc ++ rest = acc' ++ rest' →
      (∀ (R : Heap) (m : Str → Option Value) (s : Shared) ts tu u, us[p]? = some u → ItS s₀ R₀ D L v p acc R m s → m "size" = some (.int (sizeU (us.drop p) : Int) ts) → m "unit" = some (.str ⟨u.toArray⟩ tu) →
        wpAny (model prog w) A (exec if18 (e18 L a cd)) (Lap prog w s₀ R₀ D L v p acc' (sizeU (us.drop p))) NoE s) →
      wpAny (model prog w) A (execs it18 (e18 L a cd)) (fun f s' => f = .next ∧ ∃ R' m' p' acc' rest', ItS s₀ R₀ D L v p' acc' R' m' s' ∧ Items i d (us.drop p') rest' ∧ acc ++ rest = acc' ++ rest' ∧ p < p' ∧ p' ≤ us.length) NoE s := by
    intro acc' rest' hI' he h3
    refine wpAny_mono (lap G (A'.le (by omega)) hu hlen hul hp hacc x h3) (fun f s' q => ?_) fun _ _ q => q
    refine Classical.byContradiction fun hNo => ?_
    obtain ⟨rfl, R', m', x'⟩ := q
    refine hNo ?_
    clear hNo
    exact ⟨rfl, R', m', _, acc', rest', x', hI', he, by omega, hb.2⟩
  have hun : ∀ {u}, us[p]? = some u → u = u₀ := fun h => by rw [hu₀] at h; exact (Option.some.inj h).symm
  have hu₀' := hul u₀ (List.mem_of_getElem? hu₀)
  rw [hdr] at hI
  generalize hgs : us.drop (p + 1) = tl at hI hdr
  generalize hgo : rest = rest₀ at hI
  cases hI with
  | @pair d' _ _ n first second rest' h1 h2 hin hf hs hr =>
    subst hgo
    have hnn : sizeU (us.drop p) = n := by rw [hdr]; exact h1
    refine fin (acc ++ [first ++ second ++ undoneP first ++ undoneP second]) rest' ?_ (by simp) fun R m s ts tu u hu' x hsz hunit => ?_
    · rw [hnn, ← List.drop_drop, hdr]; exact hr
    rw [hnn] at hsz ⊢
    refine if18_eq _ x hsz fun s x => ?_
    rw [if_pos h2]
    refine pairPart G (A'.le (by omega)) hu hlen h2 (fun R s v' a' GG hR ha' hv' => ?_) hf hs hacc x hsz
    rw [hgs] at hv'
    have htl : tl.length ≤ us.length := by rw [← hgs, List.length_drop]; omega
    refine recP d' rfl (tl.take (n - 2)) [first, second] v' a' hin GG (A'.le (by omega)) hR ha' hv' (by rw [List.length_take]; omega) fun c hc => hul c ?_
    have := List.mem_of_mem_take hc
    rw [← hgs] at this
    exact List.mem_of_mem_drop this
  | @skip _ _ _ _ h1 h2 hr =>
    subst hgo
    have hnn : sizeU (us.drop p) = 1 := by rw [hdr]; exact h1
    refine fin acc rest (by rw [hnn, hgs]; exact hr) rfl fun R m s ts tu u hu' x hsz hunit => ?_
    rw [hnn] at hsz ⊢
    obtain rfl := hun hu'
    refine if18_eq (n := 1) _ x hsz fun s x => ?_
    rw [if_neg (by omega)]
    refine test18 G (A'.le (by omega)) hu₀'.1 hu₀'.2 x hunit fun R' s' x' => ?_
    rw [if_neg (by rintro ⟨h3, h4⟩; rcases h2 with h2 | h2; exact h3 h2; exact h4 h2)]
    exact ⟨rfl, R', m, x', ts, hsz⟩
  | @one _ _ _ rest' j h1 hj hsg h40 hb1 hr =>
    subst hgo
    have hnn : sizeU (us.drop p) = 1 := by rw [hdr]; exact h1
    refine fin (acc ++ [if u₀.length = 2 then undoneP (runOf (signP i j).2) else runOf (signP i j).2]) rest' (by rw [hnn, hgs]; exact hr) (by simp) fun R m s ts tu u hu' x hsz hunit => ?_
    rw [hnn] at hsz ⊢
    obtain rfl := hun hu'
    refine if18_eq (n := 1) _ x hsz fun s x => ?_
    rw [if_neg (by omega)]
    refine test18 G (A'.le (by omega)) hu₀'.1 hu₀'.2 x hunit fun R' s' x' => ?_
    rw [if_pos ⟨h40, hb1⟩]
    exact onePart G (A'.le (by omega)) hi hj hu₀'.1 hu₀'.2 hsg hacc x' hunit hsz

set_option maxHeartbeats 1000000 in
theorem items_body {i d : Nat} (hi : i < 4) (G : GE prog w mg mb R₀) {A : Around} (A' : AOk A (23 + d * 4)) (recP : ∀ d', d = d' + 1 → ItemsSpec prog w mg mb i d') {us : List (List Nat)} {out : List Run} (hI : Items i d us out) (hu : IsUnits R₀ v us) (hlen : us.length ≤ 100) (hul : ∀ u ∈ us, u ≠ [] ∧ u.length ≤ 2)
    (F : Fm s₀ R₀ [] L (fun x => [(("units" : Str), v)].reverse.lookup x) s) :
    wpAny (model prog w) A (execs (fn 18).body (e18 L a cd)) (fun f s' => Ret s₀ R₀ (fun R' v => IsRuns R' v out) (retV f) s') NoE s := by
  refine wpAny_execs_cons (wpAny_Assign_Name (wpAny_List (wpAny_items_nil ⟨Nat.zero_le _, ?_⟩)))
  have F₁ := F.new (tk := s.toks) { cls := .type "list", data := .seq ([] : List Value).toArray }
  have hD : IsMaking IsRun R₀ (s.heap.push { cls := .type "list", data := .seq ([] : List Value).toArray }) s.heap.objs.size [] := ⟨[], ⟨_, Heap.get?_push_size _ rfl⟩, trivial⟩
  have hLD : L ≠ s.heap.objs.size := Nat.ne_of_lt F.lt
  generalize s.heap.objs.size = D at F₁ hD hLD ⊢
  refine stL F₁ fun s₂ F₂ M₂ => ?_
  refine wpAny_execs_cons (wpAny_Assign_Name (wpAny_Constant_int (stL F₂.tok fun s₃ F₃ M₃ => ?_)))
  have x : ItS s₀ R₀ D L v 0 [] R₀ _ s₃ := ⟨Grow.refl _ _, F₃, rfl, ⟨_, rfl⟩, rfl, (hD.at (fun _ _ y => y) (M₂.at (by simpa using Ne.symm hLD))).at (fun _ _ y => y) (M₃.kb D · (by simpa using Ne.symm hLD))⟩
  refine wpAny_execs_cons ?_
  refine wpWhile (fun q s => ∃ p acc rest R m, q = us.length - p ∧ p ≤ us.length ∧ Items i d (us.drop p) rest ∧ acc ++ rest = out ∧ ItS s₀ R₀ D L v p acc R m s) us.length ⟨0, [], out, R₀, _, rfl, Nat.zero_le _, hI, rfl, x⟩ ?_
  intro q s hJo
  refine Classical.byContradiction fun hNo => ?_
  obtain ⟨p, acc, rest, R, m, hq, hp, hI', hout, x⟩ := hJo
  refine hNo ?_
  clear hNo
  have hol := hI.len
  obtain ⟨tp, hpl⟩ := x.place
  have GG := G.keeps x.grow.sub
  refine Classical.byContradiction fun hNo => ?_
  obtain ⟨D₀, vs, hv, hpv, hall⟩ := id (hu.keeps x.grow.sub)
  refine hNo ?_
  clear hNo
  have hsize : vs.size = us.length := by have := hall.length; rwa [Array.length_toList] at this
  refine wpAny_isTrue_Compare1 (nmL x.fm (by exact hpl) (Call_ (nmB x.fm GG.g GG.b GG.len.1 GG.len.2 (PyProof.Rows.callWith_builtin1 (args_cons (nmL x.fm (by exact x.units) (args_nil ?_))) rfl rfl))))
  rw [hv]
  refine call_len_list (hpv.at fun o e => x.fm.has _ o e).isList (by omega) (PySem.P.lt_int (wpAny_truthy_bool ?_))
  have x := x.tok (tk := s.toks + 1 + 1)
  rw [show decide ((p : Int) < (vs.size : Int)) = decide (p < us.length) from by rw [hsize]; simp]
  by_cases hlt : p < us.length
  · refine wp_if_t (by simp only [hlt, decide_true]) ?_
    have hal : acc.length ≤ 1000 := by have : (acc ++ rest).length = out.length := by rw [hout]
                                       rw [List.length_append] at this; omega
    refine wpAny_mono (lapItems hi G A' recP hu hlen hul hlt hal x hI') (fun f s' q => ?_) fun _ _ q => q
    refine Classical.byContradiction fun hNo => ?_
    obtain ⟨rfl, R', m', p', acc', rest', x', hI₂, he, h1, h2⟩ := q
    refine hNo ?_
    clear hNo
    exact ⟨us.length - p', by omega, p', acc', rest', R', m', rfl, h2, hI₂, he ▸ hout, hv ▸ x'⟩
  · refine wp_if_f (by simp only [hlt, decide_false]) ?_
    have hp' : p = us.length := by omega
    subst hp'
    rw [List.drop_length] at hI'
    cases hI'
    rw [List.append_nil] at hout
    subst hout
    refine wpAny_execs_cons (wpAny_Return_some (nmL x.fm (by exact x.items) ?_))
    refine Classical.byContradiction fun hNo => ?_
    obtain ⟨vs', ⟨n', ho⟩, al⟩ := x.mak
    obtain ⟨R', G', S', h'⟩ := Grow.add (h := s₀.heap) x.fm.has ho (x.fm.out D (by simp)).2
    refine hNo ?_
    clear hNo
    exact ⟨x.fm.step, R', x.grow.trans G' (Sub.refl _), S', D, vs'.toArray, rfl, ⟨n', h'⟩, All2.mono (fun _ _ y => y.keeps G'.sub) al⟩

theorem items_spec (i : Nat) (hi : i < 4) : ∀ d, ItemsSpec prog w mg mb i d := by
  have one : ∀ d, (∀ d', d = d' + 1 → ItemsSpec prog w mg mb i d') → ItemsSpec prog w mg mb i d := by
    intro d recP A s R us out v a hI G hA hR ha hu hlen hul
    refine enterI G 18 (k := 23 + d * 4) (binds := [("units", v)]) (hA.le (by omega)) hR rfl ha (by simp) ?_ ?_ (fun L cd s₁ F _ A' => ?_) rfl rfl rfl (by decide +kernel)
    · exact fun _ _ _ => rfl
    · rfl
    · have h := items_body (a := a) (cd := cd) hi G A' recP hI hu hlen hul F
      with_reducible exact h
  intro d
  induction d with
  | zero => exact one 0 fun d' h => by cases h
  | succ d ih => exact one (d + 1) fun d' h => by cases h; exact ih
end
end Mine
end
section
open PySem PySem.W PySem.Calls PyProof.Rows
set_option maxRecDepth 100000
set_option linter.unusedVariables false
set_option linter.unusedSimpArgs false
namespace Mine

/-! ## frames with cells -/
section
variable {prog : Program} {w : World} {A : Around} {s s₀ : Shared} {env : Env} {R : Heap} {X : List Addr} {L : Addr} {m : Str → Option Value} {mg mb : Str → Option Value} {E : Value → Shared → Prop}

/-- entering the i-th def, one with cells -/
theorem enterC (G : GE prog w mg mb R) (i : Nat) {k : Nat} {args : List Value} {binds : List (Str × Value)} {P : Heap → Value → Prop} {a : Addr} {x : Str}
    (hA : AOk A (k + 1)) (hR : Sub R s.heap) (hx : (fn i).name = x) (ha : mg x = some (.ref a))
    (hi : i ∈ [1, 2, 3, 5, 6, 7, 10, 12, 14, 15, 16, 17, 18, 19, 20, 21])
    (hbind : ∀ pm cd doc, bindArgs (docDef (fn i).name (fn i).params (fn i).body (fn i).scope pm cd doc) ⟨args, []⟩ = pure binds)
    (hloc : (binds.all fun x => decide ((fn i).scope.names.lookup x.1 = some .local)) = true)
    (h : ∀ L cd s₁, Fm s R ((cellsFrom (L + 1) (fn i).scope.names []).map (·.2)) L (bindL (envOfC (fn i).name (fn i).scope L a cd).kindOf binds fun _ => none) s₁ → s₁.gens = s.gens →
      (∀ n c, (cellsFrom (L + 1) (fn i).scope.names []).lookup n = some c → s₁.heap.IsCell c (bindC (envOfC (fn i).name (fn i).scope L a cd).kindOf binds (fun _ => none) n)) →
      AOk (A.deeper (envOfC (fn i).name (fn i).scope L a cd)) k →
      wpAny (model prog w) (A.deeper (envOfC (fn i).name (fn i).scope L a cd)) (execs (fn i).body (envOfC (fn i).name (fn i).scope L a cd))
        (fun f s' => Ret s R P (retV f) s') NoE s₁)
    (hco : (fn i).scope.isCoroutine = false) (hgen : (fn i).scope.isGenerator = false) (hk : (fn i).scope.kind = .function) :
    wpAny (model prog w) A (call (.ref a) args) (Ret s R P) NoE s := by
  refine Classical.byContradiction fun hNo => ?_
  obtain ⟨a', o, pm, cd, doc, h1, h2, h3, h4⟩ := G.fns i hi
  refine hNo ?_
  clear hNo
  rw [hx, ha] at h1
  cases h1
  refine wpAny_call (codeAny_call_cells (body := (fn i).body) hA.room (hR _ _ h2) h3 (G.lim.keeps hR) (h4.keeps hR) rfl (hbind pm cd doc) rfl (fun y hy => .inl (locs hloc y hy)) (fun s₁ x => ?_) hco hgen hk)
  refine Classical.byContradiction fun hNo => ?_
  obtain ⟨h', tk, hs⟩ := x.toInCall.same
  refine hNo ?_
  clear hNo
  have hsub : Sub s.heap s₁.heap := x.toInCall.keep
  have F : Fm s R ((cellsFrom (s.heap.objs.size + 1) (fn i).scope.names []).map (·.2)) s.heap.objs.size (bindL (envOfC (fn i).name (fn i).scope s.heap.objs.size a cd).kindOf binds fun _ => none) s₁ := by
    refine ⟨⟨hsub, by rw [hs], fun _ _ e => by rw [hs]; exact e, fun h => by rw [hs]; exact h⟩, x.toInCall.ns, hR.trans hsub, fun y hy => ?_⟩
    have hge : s.heap.objs.size ≤ y := by
      rcases List.mem_cons.mp hy with rfl | hy
      · exact Nat.le_refl _
      · obtain ⟨p, hp, rfl⟩ := List.mem_map.mp hy
        exact Nat.le_of_lt (x.above p.1 p.2 hp)
    refine ⟨?_, get_ge_none hge⟩
    cases e : R.get? y with
    | none => rfl
    | some o => exact absurd (Heap.lt_size (hR _ _ e)) (Nat.not_lt.mpr hge)
  refine wpAny_mono (h _ cd s₁ F (by rw [hs]) (fun n c hc => x.cell n c hc) hA.deeper) (fun f s' q => ?_) fun _ _ f => f.elim
  cases f <;> exact q

theorem isCell_kb {Y : List Addr} {h h' : Heap} {c : Addr} {v : Option Value} (x : h.IsCell c v) (k : KB Y h h') (hc : c ∉ Y) : h'.IsCell c v := let ⟨o, ho, r⟩ := x; ⟨o, k c o hc ho, r⟩
theorem isCell_live {h : Heap} {c : Addr} {v : Option Value} (x : h.IsCell c v) : (h.get? c).isSome = true := let ⟨o, ho, _⟩ := x; by rw [ho]; rfl

theorem nmC {x : Str} {pos : Pos} {c : Addr} {v : Value} {Q : Value → Shared → Prop} (hv : s.heap.IsCell c (some v)) (h : Q v s) (hc : env.cells.lookup x = some c)
    (hl : env.kindOf x = some .cell) (hk : env.scope.kind = .function) (hd : (x == ("__debug__" : Str)) = false) :
    wpAny (model prog w) A (eval (.Name x pos) env) Q E s := wpAny_Name (wpAny_loadName_cell hk hl hc hv h) hd

theorem stC {x : Str} {c : Addr} {v₀ : Option Value} {v : Value} {Q : Unit → Shared → Prop} (F : Fm s₀ R X L m s) (hv : s.heap.IsCell c v₀) (hcX : c ∈ X) (hLX : L ∉ X)
    (h : ∀ s', Fm s₀ R X L m s' → s'.heap.IsCell c (some v) → Mv [c] s s' → Q () s') (hc : env.cells.lookup x = some c)
    (hl : env.kindOf x = some .cell) (hk : env.scope.kind = .function) :
    wpAny (model prog w) A (storeName env x v) Q E s :=
  wpAny_storeName_cell hk hl hc hv fun h' hc' hs => h _ (F.other (tk := s.toks) (KB.of_same hs hcX) hLX) hc' ⟨KB.of_same hs (by simp), rfl⟩
end

/-! ## _law_entry, what it does -/
noncomputable def nextRow (c : Nat) (t : Int) (acc : Kv) (p : Str × Int) : Kv := if p.1.length < 3 then putI acc (p.1 ++ ⟨#[c]⟩) (t * p.2) else acc
noncomputable def nextRows (c : Nat) (t : Int) (rows : Kv) : Kv := rows.foldl (nextRow c t) []
noncomputable def lapE (c : Nat) (t : Int) (e : Ent) (rows : Kv) (k : Int × Int × Int × Int) : Ent := addEnt e ⟨k.1, k.2.1, k.2.2.1, k.2.2.2, nextRows c t rows⟩
noncomputable abbrev K4 := Int × Int × Int × Int
noncomputable def lap1 (c : Nat) (t : Int) (st : Ent × Kv × K4) : Ent × Kv × K4 := (lapE c t st.1 st.2.1 st.2.2, nextRows c t st.2.1, (0, 0, 0, 0))
noncomputable def lapN (c : Nat) (t : Int) : Nat → Ent × Kv × K4 → Ent × Kv × K4
  | 0, st => st
  | n + 1, st => lap1 c t (lapN c t n st)
noncomputable def ownOf (first c : Nat) : Int := if c = first then 1 else 0
noncomputable def cnt0 (first : Nat) (p : Nat × Int) : K4 := ((if p.2 > 0 then 1 else 0), 1, ownOf first p.1, if p.2 < 0 then ownOf first p.1 else 0)
noncomputable def stepE (first : Nat) (e : Ent) (p : Nat × Int) : Ent := (lapN p.1 p.2 (if p.2 > 0 then 1 else 3) (e, e.rows, cnt0 first p)).1
noncomputable def entry0 : Ent := ⟨0, 0, 0, 0, [(("" : Str), 1)]⟩
noncomputable def entryP (first : Nat) (run : Run) : Ent := run.foldl (stepE first) entry0

/-! ## the rows are few -/
noncomputable def words (x y : Nat) : List Str := [⟨#[]⟩, ⟨#[x]⟩, ⟨#[y]⟩, ⟨#[x, x]⟩, ⟨#[x, y]⟩, ⟨#[y, x]⟩, ⟨#[y, y]⟩, ⟨#[x, x, x]⟩, ⟨#[x, x, y]⟩, ⟨#[x, y, x]⟩, ⟨#[x, y, y]⟩, ⟨#[y, x, x]⟩, ⟨#[y, x, y]⟩, ⟨#[y, y, x]⟩, ⟨#[y, y, y]⟩]
noncomputable def Few (x y : Nat) (l : Kv) : Prop := (l.map (·.1)).Nodup ∧ ∀ p ∈ l, p.1 ∈ words x y

theorem nodup_le : ∀ {l k : List Str}, l.Nodup → (∀ a ∈ l, a ∈ k) → l.length ≤ k.length
  | [], _, _, _ => Nat.zero_le _
  | a :: l, k, hn, hs => by
    have ha := hs a (by simp)
    rw [List.nodup_cons] at hn
    have := nodup_le (l := l) (k := k.erase a) hn.2 fun b hb => (List.mem_erase_of_ne (fun e => hn.1 (by rw [← e]; exact hb))).mpr (hs b (by simp [hb]))
    rw [List.length_erase_of_mem ha] at this
    have hk : 0 < k.length := List.length_pos_of_mem ha
    rw [List.length_cons]; omega
theorem Few.len {x y : Nat} {l : Kv} (h : Few x y l) : l.length ≤ 15 := by
  have := nodup_le (l := l.map (·.1)) (k := words x y) h.1 fun a ha => by obtain ⟨p, hp, rfl⟩ := List.mem_map.mp ha; exact h.2 p hp
  simpa [words] using this

theorem putI_keys (l : Kv) (k : Str) (i : Int) : (putI l k i).map (·.1) = if k ∈ l.map (·.1) then l.map (·.1) else l.map (·.1) ++ [k] := by
  unfold putI
  by_cases h : (l.any fun p => p.1 = k) = true
  · rw [if_pos h, if_pos]
    · rw [List.map_map]
      apply List.map_congr_left
      intro p _
      simp only [Function.comp]
      split <;> rfl
    · obtain ⟨p, hp, he⟩ := List.any_eq_true.mp h
      exact List.mem_map.mpr ⟨p, hp, by simpa using he⟩
  · rw [if_neg h, if_neg]
    · simp
    · rintro hm
      refine Classical.byContradiction fun hNo => ?_
      obtain ⟨p, hp, he⟩ := List.mem_map.mp hm
      refine hNo ?_
      clear hNo
      exact h (List.any_eq_true.mpr ⟨p, hp, by simpa using he⟩)
theorem Few.put {x y : Nat} {l : Kv} (h : Few x y l) {k : Str} (hk : k ∈ words x y) (i : Int) : Few x y (putI l k i) := by
  have hkeys : ∀ q ∈ putI l k i, q.1 ∈ (putI l k i).map (·.1) := fun q hq => List.mem_map.mpr ⟨q, hq, rfl⟩
  refine ⟨?_, fun q hq => ?_⟩
  · rw [putI_keys]
    split
    · exact h.1
    · rename_i hn
      rw [List.nodup_append]
      exact ⟨h.1, by simp, fun a ha b hb e => hn (by simp only [List.mem_singleton] at hb; rw [← hb, ← e]; exact ha)⟩
  · have := hkeys q hq
    rw [putI_keys] at this
    split at this
    · obtain ⟨p, hp, e⟩ := List.mem_map.mp this
      rw [← e]; exact h.2 p hp
    · rcases List.mem_append.mp this with this | this
      · obtain ⟨p, hp, e⟩ := List.mem_map.mp this
        rw [← e]; exact h.2 p hp
      · simp only [List.mem_singleton] at this; rw [this]; exact hk
theorem Few.addRows {x y : Nat} : ∀ {b a : Kv}, Few x y a → (∀ p ∈ b, p.1 ∈ words x y) → Few x y (addRows a b)
  | [], _, h, _ => h
  | p :: b, a, h, hb => by
    refine Few.addRows (b := b) (a := addRow a p) ?_ fun q hq => hb q (by simp [hq])
    unfold addRow
    split <;> exact h.put (hb p (by simp)) _
theorem inW {x y : Nat} {k : Str} (i : Nat) (h : (words x y)[i]? = some k) : k ∈ words x y := List.mem_of_getElem? h
theorem words_app {x y c : Nat} (hc : c = x ∨ c = y) {k : Str} (hk : k ∈ words x y) (hl : k.length < 3) : k ++ ⟨#[c]⟩ ∈ words x y := by
  simp only [words, List.mem_cons, List.not_mem_nil, or_false] at hk
  rcases hk with rfl | rfl | rfl | rfl | rfl | rfl | rfl | rfl | rfl | rfl | rfl | rfl | rfl | rfl | rfl <;> first
    | exact absurd hl (by show ¬ (3 < 3); decide)
    | (rcases hc with rfl | rfl <;> first | exact inW 1 rfl | exact inW 2 rfl | exact inW 3 rfl | exact inW 4 rfl | exact inW 5 rfl | exact inW 6 rfl | exact inW 7 rfl | exact inW 8 rfl | exact inW 9 rfl | exact inW 10 rfl | exact inW 11 rfl | exact inW 12 rfl | exact inW 13 rfl | exact inW 14 rfl)
theorem Few.next {x y c : Nat} (hc : c = x ∨ c = y) (t : Int) {l : Kv} (h : Few x y l) : Few x y (nextRows c t l) := by
  unfold nextRows
  have : ∀ (b : Kv), (∀ p ∈ b, p.1 ∈ words x y) → ∀ acc, Few x y acc → Few x y (b.foldl (nextRow c t) acc) := by
    intro b
    induction b with
    | nil => intro _ acc h; exact h
    | cons p b ih =>
      intro hb acc ha
      refine ih (fun q hq => hb q (by simp [hq])) _ ?_
      unfold nextRow
      split
      · rename_i hl; exact ha.put (words_app hc (hb p (by simp)) hl) _
      · exact ha
  exact this l h.2 [] ⟨by simp, by simp⟩
end Mine
end
section
open PySem PySem.W PySem.Calls PyProof.Rows
set_option maxRecDepth 100000
set_option linter.unusedVariables false
set_option linter.unusedSimpArgs false
namespace Mine

/-! ## {k: v for row, count in o.items() if ..} -/
section
variable {prog : Program} {w : World} {A : Around} {s s₀ : Shared} {env : Env} {R : Heap} {X : List Addr} {L : Addr} {m : Str → Option Value} {mg mb : Str → Option Value}

noncomputable def compStep (pz : Str × Int → Bool) (fk : Str → Str) (fv : Str × Int → Int) (acc : Kv) (p : Str × Int) : Kv := if pz p = true then putI acc (fk p.1) (fv p) else acc


structure CompFacts (prog : Program) (w : World) (A : Around) (s₀ : Shared) (R : Heap) (X : List Addr) (xk xv : Str) (env : Env) (scope : Scope) (cl : List (Str × Addr)) (ifs : List Expr) (kx vx : Expr) (rows : Kv) (sb : Shared) (pz : Str × Int → Bool) (fk : Str → Str) (fv : Str × Int → Int) : Prop where
  tests : ∀ C p s₁ R₁ XX mc tk tv, p ∈ rows → Sub R R₁ → Fm s₀ R₁ XX C mc s₁ → mc xk = some (.str p.1 tk) → mc xv = some (.int p.2 tv) → (∀ b ∈ X, ∀ o, sb.heap.get? b = some o → s₁.heap.get? b = some o) →
    wpAny (model prog w) A (tests ifs (compEnvC scope cl C env)) (fun ok s' => ok = pz p ∧ ∃ t, s' = { s₁ with toks := t }) NoE s₁
  key : ∀ C p s₁ R₁ XX mc tk tv, p ∈ rows → pz p = true → Sub R R₁ → Fm s₀ R₁ XX C mc s₁ → mc xk = some (.str p.1 tk) → mc xv = some (.int p.2 tv) → (∀ b ∈ X, ∀ o, sb.heap.get? b = some o → s₁.heap.get? b = some o) →
    wpAny (model prog w) A (eval kx (compEnvC scope cl C env)) (fun v s' => (∃ t, v = .str (fk p.1) t) ∧ ∃ t, s' = { s₁ with toks := t }) NoE s₁
  val : ∀ C p s₁ R₁ XX mc tk tv, p ∈ rows → pz p = true → Sub R R₁ → Fm s₀ R₁ XX C mc s₁ → mc xk = some (.str p.1 tk) → mc xv = some (.int p.2 tv) → (∀ b ∈ X, ∀ o, sb.heap.get? b = some o → s₁.heap.get? b = some o) →
    wpAny (model prog w) A (eval vx (compEnvC scope cl C env)) (fun v s' => (∃ t, v = .int (fv p) t) ∧ ∃ t, s' = { s₁ with toks := t }) NoE s₁

theorem compFold_len (pz : Str × Int → Bool) (fk : Str → Str) (fv : Str × Int → Int) : ∀ (b a : Kv), (b.foldl (compStep pz fk fv) a).length ≤ a.length + b.length
  | [], a => Nat.le_refl _
  | p :: b, a => by
    have h := compFold_len pz fk fv b (compStep pz fk fv a p)
    have h2 : (compStep pz fk fv a p).length ≤ a.length + 1 := by
      unfold compStep; split
      · exact putI_len ..
      · omega
    simp only [List.foldl_cons, List.length_cons] at h ⊢; omega

/-- o.items(), o telling its dict a state further on -/
theorem evalItemsOf {si : Shared} {K : Type} [DecidableEq K] {knd : KeyKind prog w K} {o : Expr} {apos pos : Pos} {d : Addr} {kvs : List (K × Value)} {Q : Value → Shared → Prop} (hdS : (d == sysModules) = false) (hm : s.heap.DictOf knd d kvs)
    (hbase : attributeBase o "items" env (eval o env) = eval o env) (hline : (apos.endLine == pos.line) = true) (ho : ∀ Q' : Value → Shared → Prop, Q' (.ref d) s → wpAny (model prog w) A (eval o env) Q' NoE si)
    (hQ : Q (.ref s.heap.objs.size) { s with heap := s.heap.push { cls := .type "dict_items", data := .fields #[.ref d] } }) :
    wpAny (model prog w) A (eval (.Call (.Attribute o "items" apos) [] [] pos) env) Q NoE si := by
  refine wpAny_Call_method (T := "dict") (id := "dict.items") hbase rfl hline PySem.F.plainAttrs_dict PySem.F.slot_dict_items PySem.F.type_dict_items (ho _ ⟨hm.typeIs, hm.mapOf.noDict, ?_⟩)
  show wpAny _ _ (callWith pos (.builtin "dict.items") [.ref d] [] []) Q NoE s
  exact method_meetsIn PySem.F.slot_dict_items PySem.F.entry_dict_items rfl (PyProof.Rows.evalArgs_none ⟨rfl, hm.typeIs, PySem.F.args_dict_items_1 _, _, meets_dict_items knd d hdS, ⟨kvs, hm⟩, hQ⟩)

set_option maxHeartbeats 1000000 in
theorem itemsComp {si : Shared} {xk xv : Str} {pk pv : Pos} {k : Nat} {tpos apos cpos : Pos} {o : Expr} {ifs : List Expr} {kx vx : Expr} {scope : Scope} {cl : List (Str × Addr)} {d : Addr} {rows : Kv} {pz : Str × Int → Bool} {fk : Str → Str} {fv : Str × Int → Int}
    {Done : Addr → Addr → Shared → Prop} (hh : A.handled = none) (G : GE prog w mg mb R) (F : Fm s₀ R X L m s) (hX : ∀ x ∈ X, (s.heap.get? x).isSome = true) (hLX : L ∉ X) (hd : IsRows prog w R d rows) (hn : rows.length ≤ 1000)
    (hbase : attributeBase o "items" env (eval o env) = eval o env) (hline : (apos.endLine == cpos.line) = true) (ho : ∀ Q' : Value → Shared → Prop, Q' (.ref d) s → wpAny (model prog w) A (eval o env) Q' NoE si)
    (hxk : ∀ C, (compEnvC scope cl C env).kindOf xk = some .local) (hxv : ∀ C, (compEnvC scope cl C env).kindOf xv = some .local) (hkv : xk ≠ xv) (hkind : scope.kind = .function)
    (CF : CompFacts prog w A s₀ R X xk xv env scope cl ifs kx vx rows s pz fk fv)
    (hdone : ∀ B C mc R' X' s', Grow R R' s₀.heap → Fm s₀ R' (B :: L :: X') C mc s' → (∀ x ∈ X, x ∈ X') → L ∉ X' → L ≠ C → L ≠ B → B ≠ C → B ∉ X' → s'.heap.Ns L m → (B == sysModules) = false → (∃ kvs, s'.heap.DictOf (strKind prog w) B kvs ∧ All2 rowOk kvs (rows.foldl (compStep pz fk fv) [])) →
      Sub s.heap s'.heap → s.heap.get? C = none → s'.gens = s.gens → Done B C s') :
    wpAny (model prog w) A (eval (.Call (.Attribute o "items" apos) [] [] cpos) env) (fun x s₁ => wpAny (model prog w) A (pyIter x) (fun it s₂ => (s₂.heap.objs.size == sysModules) = false ∧ ∀ D C h₁, Begun D C s₂ h₁ → (D == sysModules) = false → (∀ (K : Type) [DecidableEq K] (knd : KeyKind prog w K), h₁.DictOf knd D []) →
      Loops prog w A (.Tuple [.Name xk pk, .Name xv pv] k tpos) ifs it (compEnvC scope cl C env) (bodyD prog w A kx vx D (compEnvC scope cl C env)) (Done D C) { s₂ with heap := h₁ }) NoE s₁) NoE si := by
  refine Classical.byContradiction fun hNo => ?_
  obtain ⟨lo, kvs, ep, hdat, hall⟩ := hd
  refine hNo ?_
  clear hNo
  have hlenk := hall.length
  refine evalItemsOf lo (hdat.at fun o e => F.has _ o e).dictOf hbase hline ho ?_
  have F₂ := F.push (tk := s.toks) { cls := .type "dict_items", data := .fields #[.ref d] }
  refine wpAny_pyIter_items (knd := strKind prog w) (kvs := kvs) (ep := ep) (d := d) ⟨_, Heap.get?_push_size _ rfl, rfl, rfl⟩ (hdat.at fun o e => F₂.has _ o e) ?_
  have F₃ := F₂.new (tk := s.toks) { cls := .type "dict_itemiterator", data := .fields #[.none, .bool false, .ref d, .int 0 0, .int kvs.length 0, .int ep 0, .none, .none] }
  refine ⟨lo_of_ns (G.g.keeps F₃.has), ?_⟩
  have K₃ : Sub s.heap ((s.heap.push { cls := .type "dict_items", data := .fields #[.ref d] }).push { cls := .type "dict_itemiterator", data := .fields #[.none, .bool false, .ref d, .int 0 0, .int kvs.length 0, .int ep 0, .none, .none] }) := (sub_push _ _).trans (sub_push _ _)
  have hsI : s.heap.get? (s.heap.push { cls := .type "dict_items", data := .fields #[.ref d] }).objs.size = none := get_ge_none (by rw [Heap.size_push]; exact Nat.le_succ _)
  have hXi : (s.heap.push { cls := .type "dict_items", data := .fields #[.ref d] }).objs.size ∉ X := fun hm => by
    obtain ⟨o, ho⟩ := Option.isSome_iff_exists.mp (hX _ hm)
    exact absurd (Heap.lt_size (sub_push _ _ _ _ ho)) (Nat.lt_irrefl _)
  have hIt : IsItemIter ((s.heap.push { cls := .type "dict_items", data := .fields #[.ref d] }).push { cls := .type "dict_itemiterator", data := .fields #[.none, .bool false, .ref d, .int 0 0, .int kvs.length 0, .int ep 0, .none, .none] }) (s.heap.push { cls := .type "dict_items", data := .fields #[.ref d] }).objs.size d 0 kvs.length ep .none .none := Heap.get?_push_size _ rfl
  have hLi : L ≠ (s.heap.push { cls := .type "dict_items", data := .fields #[.ref d] }).objs.size := Nat.ne_of_lt F₂.lt
  generalize ((s.heap.push { cls := .type "dict_items", data := .fields #[.ref d] }).push { cls := .type "dict_itemiterator", data := .fields #[.none, .bool false, .ref d, .int 0 0, .int kvs.length 0, .int ep 0, .none, .none] }) = H3 at F₃ hIt K₃ ⊢
  generalize (s.heap.push { cls := .type "dict_items", data := .fields #[.ref d] }).objs.size = it at F₃ hsI hXi hIt hLi ⊢
  intro B C h₁ Bg loB hB
  obtain ⟨od, hod⟩ := dictAt_get hdat
  have Fc := F₃.into Bg
  have live₃ : ∀ y, (H3.get? y).isSome = true → y ≠ C ∧ y ≠ B := fun y hy => by
    obtain ⟨o, ho⟩ := Option.isSome_iff_exists.mp hy
    exact ⟨(by rintro rfl; rw [show H3.get? y = none from Bg.hC] at ho; cases ho), (by rintro rfl; rw [show H3.get? y = none from Bg.hD] at ho; cases ho)⟩
  have hLC := live₃ L (ns_live F₃.ns)
  have noS : ∀ y, H3.get? y = none → s.heap.get? y = none := fun y hy => by
    cases e : s.heap.get? y with
    | none => rfl
    | some o => rw [K₃ y o e] at hy; cases hy
  have hsC := noS C Bg.hC
  have hsB := noS B Bg.hD
  have hIC := live₃ it (by rw [hIt]; rfl)
  have hXC : ∀ y ∈ X, y ≠ C ∧ y ≠ B := fun y hy => live₃ y (by obtain ⟨o, ho⟩ := Option.isSome_iff_exists.mp (hX y hy); rw [K₃ y o ho]; rfl)
  have hdI : d ≠ it := F₃.ne hod (by simp)
  have hdC : d ≠ C := Fc.ne hod (by simp)
  have hdB : d ≠ B := Fc.ne hod (by simp)
  have hXX : C ∉ B :: L :: it :: X := by
    simp only [List.mem_cons, not_or]; exact ⟨Ne.symm Bg.ne, Ne.symm hLC.1, Ne.symm hIC.1, fun h => (hXC C h).1 rfl⟩
  have hBX : B ∉ it :: X := by
    simp only [List.mem_cons, not_or]; exact ⟨Ne.symm hIC.2, fun h => (hXC B h).2 rfl⟩
  refine turnsU (k := k) (pos := tpos) (xs := [(xk, pk), (xv, pv)]) monoD (walksItems (knd := strKind prog w) hh it d hdI kvs ep) hh Fc ⟨⟨_, _, Bg.sub _ _ hIt⟩, hdat.at fun o e => Fc.has _ o e⟩ (by simp) hXX (by simp [Ne.symm hIC.1, Ne.symm hdC])
    (by rintro i vals ⟨k, v, key, _, _, rfl⟩; rfl) (by simp only [List.mem_cons, List.not_mem_nil, or_false]; rintro x (rfl | rfl); exact hxk C; exact hxv C) (by simp [compEnvC, relabel, hkind]) rfl [B]
    (by simp [Ne.symm hIC.2, Ne.symm hdB])
    (fun i R' s' => (∃ kvs', s'.heap.DictOf (strKind prog w) B kvs' ∧ All2 rowOk kvs' ((rows.take i).foldl (compStep pz fk fv) [])) ∧ s'.heap.Ns L m ∧ Sub s.heap s'.heap ∧ s'.gens = s.gens)
    ⟨⟨[], hB Str (strKind prog w), trivial⟩, F₃.ns.keeps Bg.sub, K₃.trans Bg.sub, rfl⟩
    (fun i R s s' h M => ⟨let ⟨kv, h1, h2⟩ := h.1; ⟨kv, h1.at (M.at (by simp [Bg.ne, Ne.symm hIC.2])), h2⟩, h.2.1.at' (M.at (by simp [hLi, hLC.1])), fun b o e => M.kb b o (by
      simp only [List.mem_cons, List.not_mem_nil, or_false, not_or]; exact ⟨fun q => (by rw [q, hsC] at e; cases e), fun q => (by rw [q, hsI] at e; cases e)⟩) (h.2.2.1 b o e), M.gens.trans h.2.2.2⟩)
    (fun i vals m₁ R₂ s₁ hi hP G₂ J hst F₄ => ?_) fun m₁ R₂ s₁ G₂ F₄ J => ?_
  · obtain ⟨kk, v, key, hkv', hkey, rfl⟩ := hP
    refine Classical.byContradiction fun hNo => ?_
    obtain ⟨p, hp, hr, t, hv⟩ := hall.get hkv'
    refine hNo ?_
    clear hNo
    dsimp only at hr hv; subst hr hv
    have hpm : p ∈ rows := List.mem_of_getElem? hp
    obtain ⟨tk, rfl⟩ : ∃ tk, key = .str p.1 tk := by
      cases key with
      | str y t => exact ⟨t, by have : (y == p.1) = true := hkey; rw [eq_of_beq this]⟩
      | _ => cases hkey
    have mk1 : (bindAll m₁ [xk, xv] [Value.str p.1 tk, .int p.2 t]) xk = some (.str p.1 tk) := by
      show (if xk = xv then _ else if xk = xk then _ else _) = _
      rw [if_neg hkv, if_pos rfl]
    have mk2 : (bindAll m₁ [xk, xv] [Value.str p.1 tk, .int p.2 t]) xv = some (.int p.2 t) := by
      show (if xv = xv then _ else _) = _
      rw [if_pos rfl]
    refine wpAny_mono (CF.tests C p s₁ R₂ _ _ tk t hpm G₂.sub F₄ mk1 mk2 fun b _ o e => J.2.2.1 b o e) (fun ok s₂ h₂ => ?_) fun _ _ q => q
    refine Classical.byContradiction fun hNo => ?_
    obtain ⟨rfl, t₂, rfl⟩ := h₂
    refine hNo ?_
    clear hNo
    have htake : (rows.take (i + 1)).foldl (compStep pz fk fv) [] = compStep pz fk fv ((rows.take i).foldl (compStep pz fk fv) []) p := by
      rw [take_succ_of hp, List.foldl_append]; rfl
    refine Classical.byContradiction fun hNo => ?_
    obtain ⟨⟨kvs', hD', hall'⟩, hns, hkp, hgen⟩ := J
    refine hNo ?_
    clear hNo
    cases hpz : pz p with
    | false =>
      rw [if_neg (by simp)]
      refine ⟨_, R₂, Grow.refl _ _, F₄.tok, ⟨⟨kvs', hD', ?_⟩, hns, hkp, hgen⟩, KB.refl _ _⟩
      rw [htake, compStep, if_neg (by simp [hpz])]; exact hall'
    | true =>
      rw [if_pos rfl]
      refine wpAny_mono (CF.key C p { s₁ with toks := t₂ } R₂ _ _ tk t hpm hpz G₂.sub F₄.tok mk1 mk2 fun b _ o e => hkp b o e) (fun v₃ s₃ h₃ => ?_) fun _ _ q => q
      refine Classical.byContradiction fun hNo => ?_
      obtain ⟨⟨t₃, rfl⟩, t₃', rfl⟩ := h₃
      refine hNo ?_
      clear hNo
      refine wpAny_mono (CF.val C p _ R₂ _ _ tk t hpm hpz G₂.sub F₄.tok mk1 mk2 fun b _ o e => hkp b o e) (fun v₄ s₄ h₄ => ?_) fun _ _ q => q
      refine Classical.byContradiction fun hNo => ?_
      obtain ⟨⟨t₄, rfl⟩, t₄', rfl⟩ := h₄
      refine hNo ?_
      clear hNo
      have hl' := hall'.length
      have hl2 := compFold_len pz fk fv (rows.take i) []
      have hl3 : (rows.take i).length ≤ rows.length := by rw [List.length_take]; omega
      refine wpAny_dictSet_pairs (hsz := by rw [sizeLine_eq]; simp only [List.length_nil] at hl2; omega) (k := fk p.1) (by show (fk p.1 == fk p.1) = true; exact beq_self_eq_true _) hD' fun h₆ hl₆ hs₆ => ?_
      refine ⟨_, R₂, Grow.refl _ _, F₄.other (KB.of_same hs₆ (by simp)) hXX, ⟨⟨_, hl₆, ?_⟩, hns.at' fun o e => hs₆.extBut L o hLC.2 e, fun b o e => hs₆.extBut b o (fun q => by rw [q, hsB] at e; cases e) (hkp b o e), hgen⟩, KB.of_same hs₆ (by simp)⟩
      rw [htake, compStep, if_pos hpz]
      exact stored_of hall' _ _ _
  · obtain ⟨⟨kvs', hD', hall'⟩, hns, hkp, hgen⟩ := J
    rw [hlenk, List.take_length] at hall'
    exact hdone B C m₁ R₂ (it :: X) s₁ G₂ F₄ (fun x hx => List.mem_cons_of_mem _ hx) (by simp [hLi, hLX]) hLC.1 hLC.2 Bg.ne hBX hns loB ⟨kvs', hD', hall'⟩ hkp hsC hgen

theorem Fm.adoptRows {D : Addr} {l : Kv} {X' : List Addr} (F : Fm s₀ R (D :: X') L m s) (hXX : ∀ x ∈ X, x ∈ X') (hDX : D ∉ L :: X) (lo : (D == sysModules) = false) (h : ∃ kvs, s.heap.DictOf (strKind prog w) D kvs ∧ All2 rowOk kvs l) :
    ∃ R', Grow R R' s₀.heap ∧ Fm s₀ R' X L m s ∧ IsRows prog w R' D l := by
  refine Classical.byContradiction fun hNo => ?_
  obtain ⟨kvs, hD, hall⟩ := h
  obtain ⟨oD, es, ep, hoD, r⟩ := id hD
  obtain ⟨R', G', F', h'⟩ := (F.drop (Y := X) fun y hy => List.mem_cons_of_mem _ (hXX y hy)).adopt hoD (F.out D (by simp)).2 hDX
  refine hNo ?_
  clear hNo
  exact ⟨R', G', F', lo, kvs, ep, ⟨oD, es, h', r⟩, hall⟩

theorem assignItems {si : Shared} {xk xv y : Str} {pk pv py : Pos} {k : Nat} {tpos pos apos cpos spos : Pos} {o : Expr} {ifs : List Expr} {kx vx : Expr} {scope : Scope} {cl : List (Str × Addr)} {d : Addr} {rows : Kv} {pz : Str × Int → Bool} {fk : Str → Str} {fv : Str × Int → Int} {Q : Flow → Shared → Prop}
    (hsw : swapsWith (.DictComp kx vx [⟨.Tuple [.Name xk pk, .Name xv pv] k tpos, .Call (.Attribute o "items" apos) [] [] cpos, ifs, 0⟩] scope pos) (some (.Name y py)) spos.line env = pure true)
    (hclos : closureFor scope env = pure cl) (hcell : ∀ y ∈ scope.names, y.2 ≠ .cell) (hkind : scope.kind = .function) (hnames : ∀ y ∈ scope.names, y.2 = .local → scope.names.lookup y.1 = some .local)
    (hl : env.kindOf y = some .local) (hk : env.scope.kind = .function) (hL : env.locals = L)
    (hh : A.handled = none) (G : GE prog w mg mb R) (F : Fm s₀ R X L m s) (hX : ∀ x ∈ X, (s.heap.get? x).isSome = true) (hLX : L ∉ X) (hd : IsRows prog w R d rows) (hn : rows.length ≤ 1000)
    (hbase : attributeBase o "items" env (eval o env) = eval o env) (hline : (apos.endLine == cpos.line) = true) (ho : ∀ Q' : Value → Shared → Prop, Q' (.ref d) s → wpAny (model prog w) A (eval o env) Q' NoE si)
    (hxk : ∀ C, (compEnvC scope cl C env).kindOf xk = some .local) (hxv : ∀ C, (compEnvC scope cl C env).kindOf xv = some .local) (hkv : xk ≠ xv)
    (CF : CompFacts prog w A s₀ R X xk xv env scope cl ifs kx vx rows s pz fk fv)
    (h : ∀ R' B s', Grow R R' s₀.heap → Fm s₀ R' X L (fun z => if z = y then some (.ref B) else m z) s' → IsRows prog w R' B (rows.foldl (compStep pz fk fv) []) → KB [L] s.heap s'.heap → s'.gens = s.gens → Q .next s')
    (hs : ∀ x, foldedSetIterable (.Call (.Attribute o "items" apos) [] [] cpos) env x = pure x := by intro _; rfl) :
    wpAny (model prog w) A (exec (.Assign [.Name y py] (.DictComp kx vx [⟨.Tuple [.Name xk pk, .Name xv pv] k tpos, .Call (.Attribute o "items" apos) [] [] cpos, ifs, 0⟩] scope pos) spos) env) Q NoE si := by
  refine assignD hsw hclos hcell hkind hnames ?_ hs
  refine itemsComp (Done := fun D C => doneA prog w A env y py Q D C) hh G F hX hLX hd hn hbase hline ho hxk hxv hkv hkind CF fun B C mc R' X' s' G' Fc hXX hLX' hLC hLB hBC hBX' hns lo hdict hkp hsC hgen => ?_
  refine Fc.storeComp hns hLC hLB hLX' hl hk hL fun s₂ F₂ keep gens => ?_
  refine Classical.byContradiction fun hNo => ?_
  obtain ⟨kvs, hD, hall⟩ := hdict
  refine hNo ?_
  clear hNo
  obtain ⟨R₃, G₃, F₃, hr⟩ := F₂.adoptRows (X := X) (prog := prog) (w := w) hXX (by simp only [List.mem_cons, not_or]; exact ⟨Ne.symm hLB, fun h => hBX' (hXX B h)⟩) lo ⟨kvs, hD.at (keep B (Ne.symm hLB) hBC), hall⟩
  exact h R₃ B s₂ (G'.trans G₃ (Sub.refl _)) F₃ hr (fun b o hb e => keep b (by simpa using hb) (fun q => by rw [q, hsC] at e; cases e) o (hkp b o e)) (gens.trans hgen)

theorem evalItems {si : Shared} {xk xv : Str} {pk pv : Pos} {k : Nat} {tpos pos apos cpos : Pos} {o : Expr} {ifs : List Expr} {kx vx : Expr} {scope : Scope} {cl : List (Str × Addr)} {d : Addr} {rows : Kv} {pz : Str × Int → Bool} {fk : Str → Str} {fv : Str × Int → Int} {Q : Value → Shared → Prop}
    (hclos : closureFor scope env = pure cl) (hcell : ∀ y ∈ scope.names, y.2 ≠ .cell) (hkind : scope.kind = .function) (hnames : ∀ y ∈ scope.names, y.2 = .local → scope.names.lookup y.1 = some .local)
    (hh : A.handled = none) (G : GE prog w mg mb R) (F : Fm s₀ R X L m s) (hX : ∀ x ∈ X, (s.heap.get? x).isSome = true) (hLX : L ∉ X) (hd : IsRows prog w R d rows) (hn : rows.length ≤ 1000)
    (hbase : attributeBase o "items" env (eval o env) = eval o env) (hline : (apos.endLine == cpos.line) = true) (ho : ∀ Q' : Value → Shared → Prop, Q' (.ref d) s → wpAny (model prog w) A (eval o env) Q' NoE si)
    (hxk : ∀ C, (compEnvC scope cl C env).kindOf xk = some .local) (hxv : ∀ C, (compEnvC scope cl C env).kindOf xv = some .local) (hkv : xk ≠ xv)
    (CF : CompFacts prog w A s₀ R X xk xv env scope cl ifs kx vx rows s pz fk fv)
    (h : ∀ R' B s', Grow R R' s₀.heap → Fm s₀ R' X L m s' → IsRows prog w R' B (rows.foldl (compStep pz fk fv) []) → Sub s.heap s'.heap → s'.gens = s.gens → Q (.ref B) s')
    (hs : ∀ x, foldedSetIterable (.Call (.Attribute o "items" apos) [] [] cpos) env x = pure x := by intro _; rfl) :
    wpAny (model prog w) A (eval (.DictComp kx vx [⟨.Tuple [.Name xk pk, .Name xv pv] k tpos, .Call (.Attribute o "items" apos) [] [] cpos, ifs, 0⟩] scope pos) env) Q NoE si := by
  refine evalD hclos hcell hkind hnames ?_ hs
  refine itemsComp (Done := fun D C => doneE Q D C) hh G F hX hLX hd hn hbase hline ho hxk hxv hkv hkind CF fun B C mc R' X' s' G' Fc hXX hLX' hLC hLB hBC hBX' hns lo hdict hkp hsC hgen => ?_
  refine ⟨mc, Fc.ns, fun h' k' => ?_⟩
  have F₂ := Fc.leave hns hLC k'
  refine Classical.byContradiction fun hNo => ?_
  obtain ⟨kvs, hD, hall⟩ := hdict
  refine hNo ?_
  clear hNo
  obtain ⟨R₃, G₃, F₃, hr⟩ := F₂.adoptRows (X := X) (prog := prog) (w := w) hXX (by simp only [List.mem_cons, not_or]; exact ⟨Ne.symm hLB, fun h => hBX' (hXX B h)⟩) lo ⟨kvs, hD.at (fun o => k'.extBut B o hBC), hall⟩
  exact h R₃ B _ (G'.trans G₃ (Sub.refl _)) F₃ hr (fun b o e => k'.extBut b o (fun q => by rw [q, hsC] at e; cases e) (hkp b o e)) hgen
end
end Mine
end
section
open PySem PySem.W PySem.Calls PyProof.Rows
set_option maxRecDepth 100000
set_option linter.unusedVariables false
set_option linter.unusedSimpArgs false
namespace Mine

noncomputable abbrev e19 (L a : Addr) (cd : Value) : Env := envOfC (fn 19).name (fn 19).scope L a cd
noncomputable def out19 : List Stmt := match (fn 19).body.getD 1 (.Pass ⟨0, 0, 0, 0⟩) with | .For _ _ b _ _ => b | _ => []
noncomputable def lap19 : List Stmt := match out19.getD 3 (.Pass ⟨0, 0, 0, 0⟩) with | .For _ _ b _ _ => b | _ => []
noncomputable def IsCnt (h : Heap) (v : Value) (k : K4) : Prop := ∃ T t1 t2 t3 t4 n, v = .ref T ∧ IsT h T #[.int k.1 t1, .int k.2.1 t2, .int k.2.2.1 t3, .int k.2.2.2 t4] n
theorem IsCnt.keeps {h h' : Heap} {v : Value} {k : K4} (x : IsCnt h v k) (s : Sub h h') : IsCnt h' v k := let ⟨T, t1, t2, t3, t4, n, e, r⟩ := x; ⟨T, t1, t2, t3, t4, n, e, s _ _ r⟩

section
variable {prog : Program} {w : World} {A : Around} {s s₀ : Shared} {R R₀ : Heap} {X : List Addr} {L a : Addr} {cd : Value} {m : Str → Option Value} {mg mb : Str → Option Value}

structure LpS (prog : Program) (w : World) (s₀ : Shared) (R₀ : Heap) (X : List Addr) (L : Addr) (f c : Nat) (t : Int) (st : Ent × Kv × K4) (R : Heap) (m : Str → Option Value) (s : Shared) : Prop where
  grow : Grow R₀ R s₀.heap
  fm : Fm s₀ R X L m s
  first : ∃ u, m "first" = some (.str ⟨#[f]⟩ u)
  entry : ∃ v, m "entry" = some v ∧ IsEnt prog w R v st.1
  rows : ∃ d, m "rows" = some (.ref d) ∧ IsRows prog w R d st.2.1
  cnt : ∃ v, m "counts" = some v ∧ IsCnt R v st.2.2
  cl : ∃ u, s.heap.IsCell (L + 1) (some (.str ⟨#[c]⟩ u))
  ct : ∃ u, s.heap.IsCell (L + 2) (some (.int t u))

/-- what does not change in a frame X -/
structure XOk (X : List Addr) (L : Addr) (s : Shared) : Prop where
  live : ∀ x ∈ X, (s.heap.get? x).isSome = true
  out : L ∉ X
  c1 : L + 1 ∈ X
  c2 : L + 2 ∈ X

theorem rowsFacts (G : GE prog w mg mb R) {A : Around} {c : Nat} {t : Int} (ht : t = 1 ∨ t = -1) {rows : Kv} (hlen : ∀ p ∈ rows, p.1.length ≤ 1000) (h1 : L + 1 ∈ X) (h2 : L + 2 ∈ X)
    (hcl : ∃ u, s.heap.IsCell (L + 1) (some (.str ⟨#[c]⟩ u))) (hct : ∃ u, s.heap.IsCell (L + 2) (some (.int t u))) :
    CompFacts prog w A s₀ R X "row" "count" (e19 L a cd) (match lap19.getD 0 (.Pass ⟨0, 0, 0, 0⟩) with | .Assign _ (.DictComp _ _ _ sc _) _ => sc | _ => (fn 19).scope) [(("turn" : Str), L + 2), ("letter", L + 1)]
      (match lap19.getD 0 (.Pass ⟨0, 0, 0, 0⟩) with | .Assign _ (.DictComp _ _ [g] _ _) _ => g.ifs | _ => []) (match lap19.getD 0 (.Pass ⟨0, 0, 0, 0⟩) with | .Assign _ (.DictComp k _ _ _ _) _ => k | _ => .Tuple [] 0 ⟨0, 0, 0, 0⟩) (match lap19.getD 0 (.Pass ⟨0, 0, 0, 0⟩) with | .Assign _ (.DictComp _ v _ _ _) _ => v | _ => .Tuple [] 0 ⟨0, 0, 0, 0⟩)
      rows s (fun p => decide (p.1.length < 3)) (fun k => k ++ ⟨#[c]⟩) (fun p => t * p.2) := by
  refine Classical.byContradiction fun hNo => ?_
  obtain ⟨u1, hcl⟩ := hcl
  obtain ⟨u2, hct⟩ := hct
  refine hNo ?_
  clear hNo
  have cell : ∀ {s₁ : Shared} {y v}, y ∈ X → s.heap.IsCell y v → (∀ b ∈ X, ∀ o, s.heap.get? b = some o → s₁.heap.get? b = some o) → s₁.heap.IsCell y v := fun hy ⟨o, ho, r⟩ k => ⟨o, k _ hy o ho, r⟩
  refine ⟨fun C p s₁ R₁ XX mc tk tv hp hS F mk mv kp => ?_, fun C p s₁ R₁ XX mc tk tv hp hz hS F mk mv kp => ?_, fun C p s₁ R₁ XX mc tk tv hp hz hS F mk mv kp => ?_⟩
  · have GG := G.keeps hS
    refine wpAny_tests_one (wpAny_isTrue_Compare1 (Call_ (nmB F GG.g GG.b GG.len.1 GG.len.2 (PyProof.Rows.callWith_builtin1 (args_cons (nmL F (by exact mk) (args_nil ?_))) rfl rfl))))
    have hl := hlen p hp
    refine PySem.P.len_str (by omega) (wpAny_Constant_int (PySem.P.lt_int (wpAny_truthy_bool ⟨?_, _, rfl⟩)))
    simp; omega
  · refine wpAny_BinOp (nmL F (by exact mk) (nmC (cell h1 hcl kp) ?_ rfl rfl rfl rfl))
    have hz' : p.1.length < 3 := by simpa using hz
    refine PyProof.Rows.add_str (fun t' tk' => ⟨⟨t', rfl⟩, tk', rfl⟩) ?_
    show p.1.length + 1 ≤ sizeLine
    rw [sizeLine_eq]; omega
  · refine wpAny_BinOp (nmC (cell h2 hct kp) (nmL F (by exact mv) (PySem.P.mul_int ⟨⟨_, rfl⟩, _, rfl⟩ (.of_left ?_))) rfl rfl rfl rfl)
    rcases ht with rfl | rfl <;> decide

theorem nextRows_eq (c : Nat) (t : Int) (rows : Kv) : rows.foldl (compStep (fun p => decide (p.1.length < 3)) (fun k => k ++ ⟨#[c]⟩) (fun p => t * p.2)) [] = nextRows c t rows := by
  unfold nextRows
  congr 1
  funext acc p
  unfold compStep nextRow
  by_cases h : p.1.length < 3 <;> simp [h]

set_option maxHeartbeats 4000000 in
theorem lapBody (G : GE prog w mg mb R₀) {A : Around} (A' : AOk A 12) {f c : Nat} {t : Int} (ht : t = 1 ∨ t = -1) {st : Ent × Kv × K4} (hl1 : st.1.rows.length ≤ 100) (hl2 : st.2.1.length ≤ 100) (hl3 : (nextRows c t st.2.1).length ≤ 100) (hlen : ∀ p ∈ st.2.1, p.1.length ≤ 1000)
    (x : LpS prog w s₀ R₀ X L f c t st R m s) (xo : XOk X L s) :
    wpAny (model prog w) A (execs lap19 (e19 L a cd)) (fun fl s' => fl = .next ∧ ∃ R' m', Grow R R' s₀.heap ∧ LpS prog w s₀ R₀ X L f c t (lap1 c t st) R' m' s' ∧ XOk X L s' ∧ KB [L] s.heap s'.heap) NoE s := by
  refine Classical.byContradiction fun hNo => ?_
  obtain ⟨grow, fm, ⟨uf, hfirst⟩, ⟨ve, hentry, hE⟩, ⟨d, hrows, hR⟩, ⟨vk, hcnt, hK⟩, hcl, hct⟩ := x
  refine hNo ?_
  clear hNo
  have GG := G.keeps grow.sub
  have n1 : L + 1 ∉ [L] := by simp
  have n2 : L + 2 ∉ [L] := by simp
  refine wpAny_execs_cons ?_
  refine assignItems (L := L) (cl := [(("turn" : Str), L + 2), ("letter", L + 1)]) (rows := st.2.1) (d := d) rfl rfl (by decide) rfl (by decide) rfl rfl rfl A'.hh GG fm xo.live xo.out hR (by omega) rfl rfl (fun Q' q => nmL fm hrows q) (fun _ => rfl) (fun _ => rfl) (by decide)
    (rowsFacts GG ht hlen xo.c1 xo.c2 hcl hct) fun R₁ B s₁ g₁ F₁ hr₁ k₁ gens₁ => ?_
  rw [nextRows_eq] at hr₁
  have GG₁ := GG.keeps g₁.sub
  refine Classical.byContradiction fun hNo => ?_
  obtain ⟨T, t1, t2, t3, t4, n, rfl, hT⟩ := hK.keeps g₁.sub
  refine hNo ?_
  clear hNo
  refine wpAny_execs_cons ?_
  refine wpAny_Assign_Name ?_
  refine callF F₁ GG₁.g (GG₁.fns 1 (by simp)) rfl ?_
  refine args_cons (nmL F₁ (by exact hentry) ?_)
  refine args_cons ?_ (se_BinOp ..)
  refine wpAny_BinOp (nmL F₁ (by exact hcnt) (Tuple_ (args_cons (nmL F₁ rfl (args_nil (wpAny_newTuple ?_))))))
  have F₂ := F₁.push (tk := s₁.toks) { cls := .type "tuple", data := .seq #[.ref B] }
  refine P.add_tuple (F₂.has _ _ hT) (Heap.get?_push_size _ rfl) (by simp) (by simp) ?_
  have F₃ := F₂.push (tk := s₁.toks) { cls := .type "tuple", data := .seq (#[.int st.2.2.1 t1, .int st.2.2.2.1 t2, .int st.2.2.2.2.1 t3, .int st.2.2.2.2.2 t4] ++ #[.ref B]) }
  have hX₁ : ∀ x ∈ X, (s₁.heap.get? x).isSome = true := fun x hx => by
    obtain ⟨o, ho⟩ := Option.isSome_iff_exists.mp (xo.live x hx)
    rw [k₁ x o (by simp only [List.mem_singleton]; exact fun q => xo.out (q ▸ hx)) ho]; rfl
  have hfr : (s₁.heap.push { cls := .type "tuple", data := .seq #[.ref B] }).objs.size ∉ L :: X := fresh_notin fun x hx => by
    rcases List.mem_cons.mp hx with rfl | hx
    · exact ns_live F₂.ns
    · obtain ⟨o, ho⟩ := Option.isSome_iff_exists.mp (hX₁ x hx); rw [sub_push _ _ _ _ ho]; rfl
  refine Classical.byContradiction fun hNo => ?_
  obtain ⟨R₃, g₃, F₃, hT₃⟩ := F₃.adopt (Heap.get?_push_size _ rfl) (F₂.none_of (get_size_none _)).2 hfr
  refine hNo ?_
  clear hNo
  have GG₃ := GG₁.keeps g₃.sub
  refine args_nil ⟨F₂.has.trans (sub_push _ _), fun a' ha' => ?_⟩
  have hE₂ : IsEnt prog w R₃ (.ref (s₁.heap.push { cls := .type "tuple", data := .seq #[.ref B] }).objs.size) ⟨st.2.2.1, st.2.2.2.1, st.2.2.2.2.1, st.2.2.2.2.2, nextRows c t st.2.1⟩ := ⟨_, t1, t2, t3, t4, B, rfl, ⟨_, hT₃, rfl, _, rfl⟩, hr₁.keeps g₃.sub⟩
  refine wpAny_mono (add_func_stats_spec GG₃ (A'.le (by omega)) F₃.has ((hE.keeps g₁.sub).keeps g₃.sub) hE₂ (by show st.1.rows.length + (nextRows c t st.2.1).length ≤ 2 ^ 20; omega) a' ha') (fun v₄ s₄ h₄ => ?_) fun _ _ q => q
  refine Classical.byContradiction fun hNo => ?_
  obtain ⟨stp, R₄, g₄, S₄, hE₄⟩ := h₄
  refine hNo ?_
  clear hNo
  have hX₃ : ∀ x ∈ X, (((s₁.heap.push { cls := .type "tuple", data := .seq #[.ref B] }).push { cls := .type "tuple", data := .seq (#[.int st.2.2.1 t1, .int st.2.2.2.1 t2, .int st.2.2.2.2.1 t3, .int st.2.2.2.2.2 t4] ++ #[.ref B]) }).get? x).isSome = true := fun x hx => by
    obtain ⟨o, ho⟩ := Option.isSome_iff_exists.mp (hX₁ x hx); rw [sub_push _ _ _ _ (sub_push _ _ _ _ ho)]; rfl
  have F₄ := F₃.call stp g₄ S₄ hX₃
  refine stL F₄ fun s₅ F₅ M₅ => ?_
  refine wpAny_execs_cons ?_
  refine wpAny_Assign_Name (Tuple_ (args_cons (wpAny_Constant_int (args_cons (wpAny_Constant_int (args_cons (wpAny_Constant_int (args_cons (wpAny_Constant_int (args_nil (wpAny_newTuple ?_)))))))))))
  have F₆ := F₅.push (tk := s₅.toks + 1 + 1 + 1 + 1) { cls := .type "tuple", data := .seq #[.int 0 s₅.toks, .int 0 (s₅.toks + 1), .int 0 (s₅.toks + 1 + 1), .int 0 (s₅.toks + 1 + 1 + 1)] }
  have hX₅ : ∀ x ∈ X, (s₅.heap.get? x).isSome = true := fun x hx => by
    obtain ⟨o, ho⟩ := Option.isSome_iff_exists.mp (hX₃ x hx)
    rw [M₅.kb x o (by simp only [List.mem_singleton]; exact fun q => xo.out (q ▸ hx)) (stp.sub x o ho)]; rfl
  obtain ⟨R₆, g₆, F₆, hT₆⟩ := F₆.adopt (Heap.get?_push_size _ rfl) (F₅.none_of (get_size_none _)).2 (fresh_notin fun x hx => by
    rcases List.mem_cons.mp hx with rfl | hx
    · exact ns_live F₅.ns
    · exact hX₅ x hx)
  refine stL F₆ fun s₇ F₇ M₇ => ?_
  have KB₇ : KB [L] s.heap s₇.heap := (((((k₁.trans (KB.of_sub (sub_push _ _))).trans (KB.of_sub (sub_push _ _))).trans (KB.of_sub stp.sub)).trans M₅.kb).trans (KB.of_sub (sub_push _ _))).trans M₇.kb
  have g04 : Grow R₃ R₄ s₀.heap := g₄.back F₃.step.sub
  refine wpAny_execs_nil ⟨rfl, R₆, _, ((g₁.trans g₃ (Sub.refl _)).trans g04 (Sub.refl _)).trans g₆ (Sub.refl _), ⟨grow.trans (((g₁.trans g₃ (Sub.refl _)).trans g04 (Sub.refl _)).trans g₆ (Sub.refl _)) (Sub.refl _), F₇, ⟨uf, hfirst⟩, ⟨v₄, rfl, hE₄.keeps g₆.sub⟩,
    ⟨B, rfl, ((hr₁.keeps g₃.sub).keeps g04.sub).keeps g₆.sub⟩, ⟨_, rfl, _, _, _, _, _, _, rfl, hT₆⟩, let ⟨u, h⟩ := hcl; ⟨u, isCell_kb h KB₇ n1⟩, let ⟨u, h⟩ := hct; ⟨u, isCell_kb h KB₇ n2⟩⟩,
    ⟨fun x hx => ?_, xo.out, xo.c1, xo.c2⟩, KB₇⟩
  obtain ⟨o, ho⟩ := Option.isSome_iff_exists.mp (xo.live x hx)
  rw [KB₇ x o (by simp only [List.mem_singleton]; exact fun q => xo.out (q ▸ hx)) ho]; rfl
end
end Mine
end
section
open PySem PySem.W PySem.Calls PyProof.Rows
set_option maxRecDepth 100000
set_option linter.unusedVariables false
set_option linter.unusedSimpArgs false
namespace Mine

section
variable {prog : Program} {w : World} {A : Around} {s₀ s : Shared} {R : Heap} {X : List Addr} {L : Addr} {m : Str → Option Value} {env : Env}
theorem loopV {I : Addr} {fp wr : List Addr} {n : Nat} {P : Nat → Value → Prop} {St : Nat → Heap → Prop} {x : Str} {px : Pos} {body : List Stmt} {Q : Flow → Shared → Prop}
    (W : Walks prog w A I fp wr n P St) (F : Fm s₀ R X L m s) (hst : St 0 s.heap) (hwr : ∀ b ∈ wr, b ∈ X) (hLX : L ∉ X) (hLf : L ∉ fp)
    (hl : env.kindOf x = some .local) (hk : env.scope.kind = .function) (hL : env.locals = L)
    (Y : List Addr) (hY : ∀ y ∈ Y, y ∉ fp) (J : Nat → (Str → Option Value) → Heap → Shared → Prop) (h0 : J 0 m R s)
    (hJ : ∀ i m R s s', J i m R s → Mv (L :: wr) s s' → J i m R s')
    (step : ∀ i v m₁ R₁ s₁, i < n → P i v → Grow R R₁ s₀.heap → J i m₁ R₁ s₁ → St (i + 1) s₁.heap → Fm s₀ R₁ X L (fun y => if y = x then some v else m₁ y) s₁ →
      wpAny (model prog w) A (execs body env) (fun f s₂ => match f with
        | .next | .cont => ∃ m₂ R₂, Grow R₁ R₂ s₀.heap ∧ Fm s₀ R₂ X L m₂ s₂ ∧ J (i + 1) m₂ R₂ s₂ ∧ KB (L :: Y) s₁.heap s₂.heap
        | .brk => Q .next s₂
        | .ret v => Q (.ret v) s₂) NoE s₁)
    (done : ∀ m₁ R₁ s₁, Grow R R₁ s₀.heap → Fm s₀ R₁ X L m₁ s₁ → J n m₁ R₁ s₁ → Q .next s₁) :
    ∃ (Inv : Nat → Shared → Prop) (q : Nat), Inv q s ∧ ∀ q s, Inv q s → wpAny (model prog w) A (pyNext (.ref I)) (fun r s₁ => match r with
        | none => Q .next s₁
        | some v => wpAny (model prog w) A (letOwnedTupleGo (.Name x px) (.ref I) v) (fun _ s₁' => wpAny (model prog w) A (assign (.Name x px) env v) (fun _ s₂ => wpAny (model prog w) A (execs body env) (fun f s₃ => match f with
            | .next | .cont => ∃ m, m < q ∧ Inv m s₃
            | .brk => Q .next s₃
            | .ret v => Q (.ret v) s₃) NoE s₂) NoE s₁') NoE s₁) NoE s := by
  refine ⟨fun q s => ∃ i m₁ R₁, q + i = n ∧ Grow R R₁ s₀.heap ∧ Fm s₀ R₁ X L m₁ s ∧ St i s.heap ∧ J i m₁ R₁ s, n, ⟨0, m, R, rfl, Grow.refl _ _, F, hst, h0⟩, ?_⟩
  intro q s hJo
  refine Classical.byContradiction fun hNo => ?_
  obtain ⟨i, m₁, R₁, hq, G₁, F₁, hst₁, hJ₁⟩ := hJo
  refine hNo ?_
  clear hNo
  refine drawW W F₁ hst₁ (by omega) hwr hLX hLf hl hk hL (fun hi s₂ F₂ M₂ => ?_) fun hi v s₂ hP F₂ M₂ hst₂ => ?_
  · subst hi
    exact done m₁ R₁ s₂ G₁ F₂ (hJ _ _ _ _ _ hJ₁ (M₂.mono fun y hy => List.mem_cons_of_mem _ hy))
  · refine wpAny_mono (step i v m₁ R₁ s₂ hi hP G₁ (hJ _ _ _ _ _ hJ₁ M₂) hst₂ F₂) (fun f s₃ h₃ => ?_) fun _ _ q => q
    have fin : (∃ m₂ R₂, Grow R₁ R₂ s₀.heap ∧ Fm s₀ R₂ X L m₂ s₃ ∧ J (i + 1) m₂ R₂ s₃ ∧ KB (L :: Y) s₂.heap s₃.heap) → ∃ m, m < q ∧ ∃ i m₁ R₁, m + i = n ∧ Grow R R₁ s₀.heap ∧ Fm s₀ R₁ X L m₁ s₃ ∧ St i s₃.heap ∧ J i m₁ R₁ s₃ := by
      intro hJo
      refine Classical.byContradiction fun hNo => ?_
      obtain ⟨m₂, R₂, G₂, F₃, hJ₃, K₃⟩ := hJo
      refine hNo ?_
      clear hNo
      refine ⟨q - 1, by omega, i + 1, m₂, R₂, by omega, G₁.trans G₂ (Sub.refl _), F₃, W.frame _ _ _ hst₂ fun b hb o e => K₃ b o ?_ e, hJ₃⟩
      intro hm
      rcases List.mem_cons.mp hm with rfl | hm
      · exact hLf hb
      · exact hY b hm hb
    cases f <;> first | exact fin h₃ | exact h₃
end

section
variable {prog : Program} {w : World} {A : Around} {s s₀ : Shared} {R R₀ : Heap} {X : List Addr} {L a : Addr} {cd : Value} {m : Str → Option Value} {mg mb : Str → Option Value}

structure LpJ (prog : Program) (w : World) (L : Addr) (f c : Nat) (t : Int) (st : Ent × Kv × K4) (m : Str → Option Value) (R : Heap) (s : Shared) : Prop where
  first : ∃ u, m "first" = some (.str ⟨#[f]⟩ u)
  entry : ∃ v, m "entry" = some v ∧ IsEnt prog w R v st.1
  rows : ∃ d, m "rows" = some (.ref d) ∧ IsRows prog w R d st.2.1
  cnt : ∃ v, m "counts" = some v ∧ IsCnt R v st.2.2
  cl : ∃ u, s.heap.IsCell (L + 1) (some (.str ⟨#[c]⟩ u))
  ct : ∃ u, s.heap.IsCell (L + 2) (some (.int t u))
theorem LpS.j {f c : Nat} {t : Int} {st : Ent × Kv × K4} (x : LpS prog w s₀ R₀ X L f c t st R m s) : LpJ prog w L f c t st m R s := ⟨x.first, x.entry, x.rows, x.cnt, x.cl, x.ct⟩
theorem LpJ.frame {f c : Nat} {t : Int} {st : Ent × Kv × K4} (x : LpJ prog w L f c t st m R s) (g : Grow R₀ R s₀.heap) (F : Fm s₀ R X L m s) : LpS prog w s₀ R₀ X L f c t st R m s := ⟨g, F, x.first, x.entry, x.rows, x.cnt, x.cl, x.ct⟩

theorem few_lap {x y c : Nat} (hc : c = x ∨ c = y) (t : Int) {st : Ent × Kv × K4} (h1 : Few x y st.1.rows) (h2 : Few x y st.2.1) : Few x y (lap1 c t st).1.rows ∧ Few x y (lap1 c t st).2.1 :=
  ⟨Few.addRows h1 (Few.next hc t h2).2, Few.next hc t h2⟩
theorem few_lapN {x y c : Nat} (hc : c = x ∨ c = y) (t : Int) {st : Ent × Kv × K4} (h1 : Few x y st.1.rows) (h2 : Few x y st.2.1) : ∀ n, Few x y (lapN c t n st).1.rows ∧ Few x y (lapN c t n st).2.1
  | 0 => ⟨h1, h2⟩
  | n + 1 => let h := few_lapN hc t h1 h2 n; few_lap hc t h.1 h.2
theorem words_len {x y : Nat} {k : Str} (h : k ∈ words x y) : k.length ≤ 3 := by
  simp only [words, List.mem_cons, List.not_mem_nil, or_false] at h
  rcases h with rfl | rfl | rfl | rfl | rfl | rfl | rfl | rfl | rfl | rfl | rfl | rfl | rfl | rfl | rfl <;> (simp [Str.length])

/-- x if turn > 0 else y, for numbers -/
theorem ifGt {x y t : Int} {ut : Tok} {c : Addr} {nm : Str} {p1 p2 p3 p4 p5 p6 : Pos} {k1 k2 k3 : Nat} {env : Env} {A : Around} {Q : Value → Shared → Prop} (hct : s.heap.IsCell c (some (.int t ut)))
    (h : ∀ u tk, Q (.int (if t > 0 then x else y) u) { s with toks := tk }) (hc : env.cells.lookup nm = some c) (hl : env.kindOf nm = some .cell) (hk : env.scope.kind = .function) (hd : (nm == ("__debug__" : Str)) = false) :
    wpAny (model prog w) A (eval (.IfExp (.Compare (.Name nm p1) [.Gt] [.Constant (.int 0) k1 p2] p3) (.Constant (.int x) k2 p4) (.Constant (.int y) k3 p5) p6) env) Q NoE s := by
  refine IfExp_ (wpAny_isTrue_Compare1 (nmC hct (wpAny_Constant_int (PySem.P.gt_int (wpAny_truthy_bool ?_))) hc hl hk hd))
  by_cases h0 : t > 0
  · refine wp_if_t (by simp only [h0, decide_true]) ?_
    refine wpAny_Constant_int ?_
    have := h (s.toks + 1) (s.toks + 1 + 1)
    rwa [if_pos h0] at this
  · refine wp_if_f (by simp only [h0, decide_false]) ?_
    refine wpAny_Constant_int ?_
    have := h (s.toks + 1) (s.toks + 1 + 1)
    rwa [if_neg h0] at this

set_option maxHeartbeats 4000000 in
/-- for lap in range(..) -/
theorem laps (G : GE prog w mg mb R₀) {A : Around} (A' : AOk A 12) {x y f c : Nat} {t : Int} (ht : t = 1 ∨ t = -1) (hc : c = x ∨ c = y) {st : Ent × Kv × K4} (hf1 : Few x y st.1.rows) (hf2 : Few x y st.2.1)
    (z : LpS prog w s₀ R₀ X L f c t st R m s) (xo : XOk X L s) {Q : Flow → Shared → Prop}
    (h : ∀ R' m' s', Grow R R' s₀.heap → LpS prog w s₀ R₀ X L f c t (lapN c t (if t > 0 then 1 else 3) st) R' m' s' → XOk X L s' → KB [L] s.heap s'.heap → Q .next s') :
    wpAny (model prog w) A (exec (out19.getD 3 (.Pass ⟨0, 0, 0, 0⟩)) (e19 L a cd)) Q NoE s := by
  have GG := G.keeps z.grow.sub
  obtain ⟨ut, hct⟩ := z.ct
  refine wpFor ?_ (fun _ => rfl)
  refine Call_ (nmB z.fm GG.g GG.b GG.rng.1 GG.rng.2 (PyProof.Rows.callWith_type1 ?_ ?_ ?_))
  case refine_2 => rfl
  case refine_3 => rfl
  refine args_cons ?_ (se_IfExp ..)
  refine ifGt hct (fun u tk => ?_) rfl rfl rfl rfl
  refine args_nil (call_range_1 ?_)
  obtain ⟨N, hN, hNs⟩ : ∃ N : Nat, (N : Int) = (if t > 0 then 1 else 3) ∧ N = (if t > 0 then 1 else 3) := by
    by_cases h0 : t > 0
    · exact ⟨1, by rw [if_pos h0]; rfl, by rw [if_pos h0]⟩
    · exact ⟨3, by rw [if_neg h0]; rfl, by rw [if_neg h0]⟩
  have hN3 : N ≤ 3 := by rw [hNs]; split <;> omega
  rw [← hNs] at h
  rw [← hN]
  refine wpAny_pyIter_range (Heap.get?_push_size _ rfl) (by rcases N with _ | _ | _ | _ | N <;> first | decide | (exfalso; omega)) ?_
  have hrs : Builtin.Range.rangeSize 0 (N : Int) 1 = (N : Int) := by rcases N with _ | _ | _ | _ | N <;> first | rfl | (exfalso; omega)
  rw [hrs]
  have F₁ := z.fm.push (tk := tk + 1 + 1) { cls := .type "range", data := .fields #[.int 0 tk, .int (N : Int) u, .int 1 (tk + 1)] }
  have F₂ := F₁.new (tk := tk + 1 + 1) { cls := .type "range_iterator", data := .fields #[rawInt 0, rawInt (N : Int), rawInt 1] }
  have hIt : IsRangeIter ((s.heap.push { cls := .type "range", data := .fields #[.int 0 tk, .int (N : Int) u, .int 1 (tk + 1)] }).push { cls := .type "range_iterator", data := .fields #[rawInt 0, rawInt (N : Int), rawInt 1] }) (s.heap.push { cls := .type "range", data := .fields #[.int 0 tk, .int (N : Int) u, .int 1 (tk + 1)] }).objs.size 0 (N : Int) 1 := Heap.get?_push_size _ rfl
  have KS : Sub s.heap ((s.heap.push { cls := .type "range", data := .fields #[.int 0 tk, .int (N : Int) u, .int 1 (tk + 1)] }).push { cls := .type "range_iterator", data := .fields #[rawInt 0, rawInt (N : Int), rawInt 1] }) := (sub_push _ _).trans (sub_push _ _)
  have hsI : s.heap.get? (s.heap.push { cls := .type "range", data := .fields #[.int 0 tk, .int (N : Int) u, .int 1 (tk + 1)] }).objs.size = none := get_ge_none (by rw [Heap.size_push]; exact Nat.le_succ _)
  have hLI : L ≠ (s.heap.push { cls := .type "range", data := .fields #[.int 0 tk, .int (N : Int) u, .int 1 (tk + 1)] }).objs.size := Nat.ne_of_lt F₁.lt
  have zj := z.j
  have hgr := z.grow
  clear z
  generalize ((s.heap.push { cls := .type "range", data := .fields #[.int 0 tk, .int (N : Int) u, .int 1 (tk + 1)] }).push { cls := .type "range_iterator", data := .fields #[rawInt 0, rawInt (N : Int), rawInt 1] }) = H2 at F₂ hIt KS ⊢
  generalize (s.heap.push { cls := .type "range", data := .fields #[.int 0 tk, .int (N : Int) u, .int 1 (tk + 1)] }).objs.size = I at F₂ hIt hsI hLI ⊢
  have n1 : L + 1 ≠ I := fun e => by have := xo.live _ xo.c1; rw [e, hsI] at this; cases this
  have n2 : L + 2 ≠ I := fun e => by have := xo.live _ xo.c2; rw [e, hsI] at this; cases this
  have hIX : I ∉ X := fun hm => by have := xo.live _ hm; rw [hsI] at this; cases this
  have keepJ : ∀ {st : Ent × Kv × K4} {m : Str → Option Value} {R : Heap} {s s' : Shared} {Y : List Addr}, LpJ prog w L f c t st m R s → KB Y s.heap s'.heap → L + 1 ∉ Y → L + 2 ∉ Y → LpJ prog w L f c t st m R s' :=
    fun j k h1 h2 => ⟨j.first, j.entry, j.rows, j.cnt, let ⟨u, q⟩ := j.cl; ⟨u, isCell_kb q k h1⟩, let ⟨u, q⟩ := j.ct; ⟨u, isCell_kb q k h2⟩⟩
  refine loopV (x := "lap") (Walks.range A'.hh I 0 1 N) F₂ (by simpa using hIt) (by simp) (by simp [hLI, xo.out]) (by simp [hLI]) rfl rfl rfl [] (by simp)
    (fun j m R s' => LpJ prog w L f c t (lapN c t j st) m R s' ∧ KB [L, I] s.heap s'.heap) ⟨keepJ (Y := []) zj (KB.of_sub KS) (by simp) (by simp), KB.of_sub KS⟩
    (fun j m R s s' q M => ⟨keepJ q.1 M.kb (by simp [n1]) (by simp [n2]), q.2.trans M.kb⟩)
    (fun j v m₁ R₁ s₁ hj hP G₁ J hst F₃ => ?_) fun m₁ R₁ s₁ G₁ F₃ J => ?_
  · have hfew := few_lapN hc t hf1 hf2 j
    have hfew' := few_lap hc t hfew.1 hfew.2
    have J' : LpJ prog w L f c t (lapN c t j st) (fun y => if y = "lap" then some v else m₁ y) R₁ s₁ := ⟨by rw [if_neg (by decide)]; exact J.1.first, by rw [if_neg (by decide)]; exact J.1.entry, by rw [if_neg (by decide)]; exact J.1.rows, by rw [if_neg (by decide)]; exact J.1.cnt, J.1.cl, J.1.ct⟩
    have live₁ : ∀ q ∈ I :: X, (s₁.heap.get? q).isSome = true := fun q hq => by
      rcases List.mem_cons.mp hq with rfl | hq
      · rw [hst]; rfl
      · obtain ⟨o, ho⟩ := Option.isSome_iff_exists.mp (xo.live q hq)
        rw [J.2 q o (by simp only [List.mem_cons, List.not_mem_nil, or_false, not_or]; exact ⟨fun e => xo.out (e ▸ hq), fun e => hIX (e ▸ hq)⟩) ho]; rfl
    have xo₁ : XOk (I :: X) L s₁ := ⟨live₁, by simp [hLI, xo.out], by simp [xo.c1], by simp [xo.c2]⟩
    · have l1 := hfew.1.len
      have l2 := hfew.2.len
      have l3 := hfew'.2.len
      refine wpAny_mono (lapBody G A' ht (by omega) (by omega) (by exact Nat.le_trans l3 (by omega)) (fun p hp => Nat.le_trans (words_len (hfew.2.2 p hp)) (by omega)) (J'.frame (hgr.trans G₁ (Sub.refl _)) F₃) xo₁) (fun fl s₂ q => ?_) fun _ _ q => q
      refine Classical.byContradiction fun hNo => ?_
      obtain ⟨rfl, R₂, m₂, g₂, z₂, xo₂, k₂⟩ := q
      refine hNo ?_
      clear hNo
      exact ⟨m₂, R₂, g₂, z₂.fm, ⟨z₂.j, J.2.trans (k₂.mono (by simp))⟩, k₂⟩
  · refine h R₁ m₁ s₁ G₁ (J.1.frame (hgr.trans G₁ (Sub.refl _)) (F₃.drop (fun y hy => List.mem_cons_of_mem _ hy))) ⟨fun q hq => ?_, xo.out, xo.c1, xo.c2⟩ ?_
    · obtain ⟨o, ho⟩ := Option.isSome_iff_exists.mp (xo.live q hq)
      rw [J.2 q o (by simp only [List.mem_cons, List.not_mem_nil, or_false, not_or]; exact ⟨fun e => xo.out (e ▸ hq), fun e => hIX (e ▸ hq)⟩) ho]; rfl
    · intro b o hb e
      exact J.2 b o (by simp only [List.mem_cons, List.not_mem_nil, or_false, not_or] at hb ⊢; exact ⟨hb, fun q => by rw [q, hsI] at e; cases e⟩) e
end
end Mine
end
section
open PySem PySem.W PySem.Calls PyProof.Rows
set_option maxRecDepth 100000
set_option linter.unusedVariables false
set_option linter.unusedSimpArgs false
namespace Mine

section
variable {prog : Program} {w : World} {A : Around} {s s₀ : Shared} {R R₀ : Heap} {X : List Addr} {L a : Addr} {cd : Value} {m : Str → Option Value} {mg mb : Str → Option Value}

theorem item4 {e : Ent} {d : Value} {value slice : Expr} {T : Addr} {t1 t2 t3 t4 u : Tok} {A : Around} {Q : Value → Shared → Prop} (hT : s.heap.IsTuple T #[.int e.cc t1, .int e.nc t2, .int e.tt t3, .int e.ct t4, d]) (h : Q d s)
    (hs : subscripted slice false (.ref T) (.int 4 u) = operate [.ref T, .int 4 u] (getItem (.ref T) (.int 4 u))) :
    wpAny (model prog w) A (subscriptTail value slice (.ref T) (.int 4 u)) Q NoE s := by
  refine subscriptTail_builtinR (x := d) (T := "tuple") (Heap.IsTuple.typeIs hT) PyProof.Rows.slot_tuple_getitem.lookup ?_ hs
  exact PyProof.Rows.getItem_tuple (items := #[.int e.cc t1, .int e.nc t2, .int e.tt t3, .int e.ct t4, d]) (j := 4) hT (by decide) (by decide) rfl rfl ⟨rfl, h⟩

set_option maxHeartbeats 4000000 in
theorem outBody (G : GE prog w mg mb R₀) {A : Around} (A' : AOk A 12) {x y f c : Nat} {t : Int} (ht : t = 1 ∨ t = -1) (hc : c = x ∨ c = y) {e : Ent} (hf : Few x y e.rows) (grow : Grow R₀ R s₀.heap) (fm : Fm s₀ R X L m s) (hfirst : ∃ u, m "first" = some (.str ⟨#[f]⟩ u))
    (hentry : ∃ v, m "entry" = some v ∧ IsEnt prog w R v e) (hcl : ∃ u, s.heap.IsCell (L + 1) (some (.str ⟨#[c]⟩ u))) (hct : ∃ u, s.heap.IsCell (L + 2) (some (.int t u))) (xo : XOk X L s) :
    wpAny (model prog w) A (execs out19 (e19 L a cd)) (fun fl s' => fl = .next ∧ ∃ R' m', Grow R R' s₀.heap ∧ Fm s₀ R' X L m' s' ∧ (∃ u, m' "first" = some (.str ⟨#[f]⟩ u)) ∧ (∃ v, m' "entry" = some v ∧ IsEnt prog w R' v (stepE f e (c, t))) ∧ XOk X L s' ∧ KB [L] s.heap s'.heap) NoE s := by
  refine Classical.byContradiction fun hNo => ?_
  obtain ⟨uf, hfirst⟩ := hfirst
  obtain ⟨ve, hentry, hE⟩ := hentry
  obtain ⟨uc, hcl⟩ := hcl
  obtain ⟨ut, hct⟩ := hct
  refine hNo ?_
  clear hNo
  have n1 : L + 1 ∉ [L] := by simp
  have n2 : L + 2 ∉ [L] := by simp
  -- behind own = ..
  have rest : ∀ (s₁ : Shared) to, Fm s₀ R X L (fun z => if z = "own" then some (.int (ownOf f c) to) else m z) s₁ → Mv [L] s s₁ →
      wpAny (model prog w) A (execs (out19.drop 1) (e19 L a cd)) (fun fl s' => fl = .next ∧ ∃ R' m', Grow R R' s₀.heap ∧ Fm s₀ R' X L m' s' ∧ (∃ u, m' "first" = some (.str ⟨#[f]⟩ u)) ∧ (∃ v, m' "entry" = some v ∧ IsEnt prog w R' v (stepE f e (c, t))) ∧ XOk X L s' ∧ KB [L] s.heap s'.heap) NoE s₁ := by
    intro s₁ to F₁ M₁
    have hcl₁ := isCell_kb hcl M₁.kb n1
    have hct₁ := isCell_kb hct M₁.kb n2
    refine wpAny_execs_cons ?_
    refine wpAny_Assign_Name ?_
    refine Tuple_ ?_
    refine args_cons ?_ (se_IfExp ..)
    refine ifGt hct₁ (fun u tk => ?_) rfl rfl rfl rfl
    refine args_cons (wpAny_Constant_int (args_cons (nmL (F₁.tok (tk := tk + 1)) rfl ?_)))
    refine args_cons ?_ (se_IfExp ..)
    have fin : ∀ u4 tk4, wpAny (model prog w) A (newTuple [.int (if t > 0 then 1 else 0) u, .int 1 tk, .int (ownOf f c) to, .int (if t < 0 then ownOf f c else 0) u4]) (fun v s₂ => wpAny (model prog w) A (storeName (e19 L a cd) "counts" v) (fun _ s' => wpAny (model prog w) A (execs (out19.drop 2) (e19 L a cd)) (fun fl s' => fl = .next ∧ ∃ R' m', Grow R R' s₀.heap ∧ Fm s₀ R' X L m' s' ∧ (∃ u, m' "first" = some (.str ⟨#[f]⟩ u)) ∧ (∃ v, m' "entry" = some v ∧ IsEnt prog w R' v (stepE f e (c, t))) ∧ XOk X L s' ∧ KB [L] s.heap s'.heap) NoE s') NoE s₂) NoE { s₁ with toks := tk4 } := by
      intro u4 tk4
      refine wpAny_newTuple ?_
      have F₂ := F₁.push (tk := tk4) { cls := .type "tuple", data := .seq #[.int (if t > 0 then 1 else 0) u, .int 1 tk, .int (ownOf f c) to, .int (if t < 0 then ownOf f c else 0) u4] }
      have hX₁ : ∀ x ∈ X, (s₁.heap.get? x).isSome = true := fun x hx => by
        obtain ⟨o, ho⟩ := Option.isSome_iff_exists.mp (xo.live x hx)
        rw [M₁.kb x o (by simp only [List.mem_singleton]; exact fun q => xo.out (q ▸ hx)) ho]; rfl
      obtain ⟨R₂, g₂, F₂, hT₂⟩ := F₂.adopt (Heap.get?_push_size _ rfl) (F₁.none_of (get_size_none _)).2 (fresh_notin fun x hx => by
        rcases List.mem_cons.mp hx with rfl | hx
        · exact ns_live F₁.ns
        · exact hX₁ x hx)
      refine stL F₂ fun s₃ F₃ M₃ => ?_
      refine Classical.byContradiction fun hNo => ?_
      obtain ⟨T, t1, t2, t3, t4, d, rfl, hT, hr⟩ := hE.keeps g₂.sub
      refine hNo ?_
      clear hNo
      refine wpAny_execs_cons ?_
      refine wpAny_Assign_Name (Subscript_ (nmL F₃ (by exact hentry) (wpAny_Constant_int (item4 (isTuple_keeps hT F₃.has) ?_ rfl))))
      refine stL F₃.tok fun s₄ F₄ M₄ => ?_
      have KB₄ : KB [L] s.heap s₄.heap := ((M₁.kb.trans (KB.of_sub (sub_push _ _))).trans M₃.kb).trans M₄.kb
      have xo₄ : XOk X L s₄ := ⟨fun x hx => (by
        obtain ⟨o, ho⟩ := Option.isSome_iff_exists.mp (xo.live x hx)
        rw [KB₄ x o (by simp only [List.mem_singleton]; exact fun q => xo.out (q ▸ hx)) ho]; rfl), xo.out, xo.c1, xo.c2⟩
      refine wpAny_execs_cons ?_
      refine laps (st := (e, e.rows, cnt0 f (c, t))) G A' ht hc hf hf ⟨grow.trans g₂ (Sub.refl _), F₄, ⟨uf, hfirst⟩, ⟨_, hentry, hE.keeps g₂.sub⟩, ⟨d, rfl, hr⟩, ⟨_, rfl, _, _, _, _, _, _, rfl, hT₂⟩, ⟨uc, isCell_kb hcl KB₄ n1⟩, ⟨ut, isCell_kb hct KB₄ n2⟩⟩ xo₄ fun R₅ m₅ s₅ g₅ z₅ xo₅ k₅ => ?_
      exact wpAny_execs_nil ⟨rfl, R₅, m₅, g₂.trans g₅ (Sub.refl _), z₅.fm, z₅.first, z₅.entry, xo₅, KB₄.trans k₅⟩
    refine IfExp_ (wpAny_isTrue_Compare1 (nmC hct₁ (wpAny_Constant_int (PySem.P.lt_int (wpAny_truthy_bool ?_))) rfl rfl rfl rfl))
    by_cases h0 : t < 0
    · refine wp_if_t (by simp only [h0, decide_true]) ?_
      refine nmL (F₁.tok (tk := tk + 1 + 1)) rfl (args_nil ?_)
      have := fin to (tk + 1 + 1)
      rw [if_pos h0] at this
      exact this
    · refine wp_if_f (by simp only [h0, decide_false]) ?_
      refine wpAny_Constant_int (args_nil ?_)
      have := fin (tk + 1 + 1) (tk + 1 + 1 + 1)
      rw [if_neg h0] at this
      exact this
  refine wpAny_execs_cons ?_
  refine wpAny_Assign_Name (IfExp_ (wpAny_isTrue_Compare1 (nmC hcl (nmL fm hfirst (PySem.P.eq_str (wpAny_truthy_bool ?_))) rfl rfl rfl rfl)))
  rw [show ((⟨#[c]⟩ : Str).cps.toList == (⟨#[f]⟩ : Str).cps.toList) = decide (c = f) from by
    show ([c] == [f]) = _
    by_cases h : c = f <;> simp [h]]
  by_cases hcf : c = f
  · rw [decide_eq_true hcf]
    refine wp_if_t rfl ?_
    refine wpAny_Constant_int (stL fm.tok fun s₁ F₁ M₁ => rest s₁ s.toks ?_ ⟨M₁.kb, M₁.gens⟩)
    rw [show ownOf f c = 1 from if_pos hcf]; exact F₁
  · rw [decide_eq_false hcf]
    refine wp_if_f rfl ?_
    refine wpAny_Constant_int (stL fm.tok fun s₁ F₁ M₁ => rest s₁ s.toks ?_ ⟨M₁.kb, M₁.gens⟩)
    rw [show ownOf f c = 0 from if_neg hcf]; exact F₁
end
end Mine
end
section
open PySem PySem.W PySem.Calls PyProof.Rows
set_option maxRecDepth 100000
set_option linter.unusedVariables false
set_option linter.unusedSimpArgs false
namespace Mine

section
variable {prog : Program} {w : World} {A : Around} {s s₀ : Shared} {R R₀ : Heap} {X : List Addr} {L a : Addr} {cd : Value} {m : Str → Option Value} {mg mb : Str → Option Value} {env : Env}

theorem drawC {I : Addr} {fp wr : List Addr} {n i : Nat} {Pt : Nat → Array Value → Prop} {St : Nat → Heap → Prop} {Mid : Nat → Addr → Heap → Prop} {N S : Shared → Prop} {x1 x2 : Str} {p1 p2 pos : Pos} {k : Nat} {c1 c2 : Addr} {o1 o2 : Option Value}
    (W : WalksU prog w A I fp wr n Pt St Mid) (hh : A.handled = none) (F : Fm s₀ R X L m s) (hst : St i s.heap) (hi : i ≤ n) (hwr : ∀ b ∈ wr, b ∈ X) (hLX : L ∉ X)
    (h1 : s.heap.IsCell c1 o1) (h2 : s.heap.IsCell c2 o2) (h1X : c1 ∈ X) (h2X : c2 ∈ X) (h1f : c1 ∉ fp) (h2f : c2 ∉ fp) (h12 : c1 ≠ c2) (h1w : c1 ∉ wr) (h2w : c2 ∉ wr)
    (hc1 : env.cells.lookup x1 = some c1) (hc2 : env.cells.lookup x2 = some c2) (hl1 : env.kindOf x1 = some .cell) (hl2 : env.kindOf x2 = some .cell) (hk : env.scope.kind = .function)
    (hlen : ∀ i vals, Pt i vals → ∃ v1 v2, vals = #[v1, v2])
    (hN : i = n → ∀ s', Fm s₀ R X L m s' → Mv wr s s' → N s')
    (hS : i < n → ∀ v1 v2 s', Pt i #[v1, v2] → Fm s₀ R X L m s' → s'.heap.IsCell c1 (some v1) → s'.heap.IsCell c2 (some v2) → Mv (c1 :: c2 :: wr) s s' → St (i + 1) s'.heap → S s') :
    wpAny (model prog w) A (pyNext (.ref I)) (fun r s₁ => match r with
      | none => N s₁
      | some v => wpAny (model prog w) A (letOwnedTupleGo (.Tuple [.Name x1 p1, .Name x2 p2] k pos) (.ref I) v) (fun _ s₁' => wpAny (model prog w) A (assign (.Tuple [.Name x1 p1, .Name x2 p2] k pos) env v) (fun _ s₂ => S s₂) NoE s₁') NoE s₁) NoE s := by
  rcases Nat.lt_or_ge i n with hlt | hge
  · refine W.item i _ _ _ hlt hst fun T vals h₁ tk hP hT hM hk₁ => ?_
    have F₁ := F.kb (tk := tk) (h' := h₁) hk₁ hwr hLX
    refine W.go _ _ _ i T _ _ _ hM fun h₂ hst₂ hk₂ => ?_
    have F₂ := F₁.kb (tk := tk) (h' := h₂) hk₂ hwr hLX
    have hT₂ : h₂.IsTuple T vals := let ⟨o, ho, r⟩ := hT; ⟨o, hk₂ T o (W.apart i T _ hM) ho, r⟩
    refine Classical.byContradiction fun hNo => ?_
    obtain ⟨v1, v2, rfl⟩ := hlen i vals hP
    refine hNo ?_
    clear hNo
    have k12 : KB wr s.heap h₂ := KB.trans hk₁ hk₂
    refine wpAny_assign_Tuple hh hT₂ rfl rfl fun h' hx => ?_
    have hs := sub_of_ext_size hx
    have F₃ := F₂.keep (tk := tk) hs
    have k13 : KB wr s.heap h' := k12.trans (KB.of_sub hs)
    show wpAny _ _ (do holding [v2] (assign (.Name x1 p1) env v1); assignInOrder [assign (.Name x2 p2) env] [v2]) _ _ _
    refine wpAny_bind (wpAny_holding (wpAny_assign_Name (stC F₃ (isCell_kb h1 k13 h1w) h1X hLX (fun s₄ F₄ hc₄ M₄ => ?_) hc1 hl1 hk)))
    show wpAny _ _ (do holding [] (assign (.Name x2 p2) env v2); assignInOrder [] []) _ _ _
    refine wpAny_bind (wpAny_holding (wpAny_assign_Name (stC F₄ (isCell_kb (isCell_kb h2 k13 h2w) M₄.kb (by simpa using Ne.symm h12)) h2X hLX (fun s₅ F₅ hc₅ M₅ => ?_) hc2 hl2 hk)))
    refine wpAny_pure (hS hlt v1 v2 s₅ hP F₅ (isCell_kb hc₄ M₅.kb (by simpa using h12)) hc₅ ⟨?_, M₅.gens.trans M₄.gens⟩ (W.frame _ _ _ hst₂ fun b hb o e => M₅.kb b o (by simp only [List.mem_singleton]; exact fun q => h2f (q ▸ hb)) (M₄.kb b o (by simp only [List.mem_singleton]; exact fun q => h1f (q ▸ hb)) (hs b o e))))
    exact ((k13.mono fun y hy => by simp [hy]).trans (M₄.kb.mono (by simp))).trans (M₅.kb.mono (by simp))
  · obtain rfl : i = n := Nat.le_antisymm hi hge
    exact W.done _ _ _ hst fun h₁ tk hk₁ => hN rfl _ (F.kb hk₁ hwr hLX) ⟨hk₁, rfl⟩

theorem se_Dict (ks : List (Option Expr)) (vs : List Expr) (p : Pos) (rest : List Expr) (env : Env) : starEach (.Dict ks vs p :: rest) env = (false, eval (.Dict ks vs p) env) :: starEach rest env := rfl

theorem dictOne {x : Str} {v : Int} {k1 k2 : Nat} {p1 p2 pos : Pos} {Q : Value → Shared → Prop}
    (h : ∀ h' tk, Sub s.heap h' → h'.objs.size ≥ s.heap.objs.size + 1 → (∃ kvs, h'.DictOf (strKind prog w) s.heap.objs.size kvs ∧ All2 rowOk kvs [(x, v)]) → Q (.ref s.heap.objs.size) { s with heap := h', toks := tk }) :
    wpAny (model prog w) A (eval (.Dict [some (.Constant (.str x) k1 p1)] [.Constant (.int v) k2 p2] pos) env) Q NoE s := by
  refine wpAny_Dict_walk (knd := strKind prog w) rfl rfl (by simp) (by simp) (pairTrees_cons_walk (wpAny_Constant_str (wpAny_Constant_int (wpAny_pure ?_))))
  refine ⟨[(x, .int v (s.toks + 1))], ⟨(beq_self_eq_true x : (x == x) = true), rfl, trivial⟩, Heap.DictOf.new _, fun h' hD hs => ?_⟩
  refine h _ _ (fun b o e => hs.extBut b o (Nat.ne_of_lt (Heap.lt_size e)) (sub_push _ _ _ _ e)) (by rw [hs.1, Heap.size_push]; exact Nat.le_refl _) ⟨_, hD, ?_⟩
  exact ⟨⟨rfl, _, rfl⟩, trivial⟩
end
end Mine
end
section
open PySem PySem.W PySem.Calls PyProof.Rows
set_option maxRecDepth 100000
set_option linter.unusedVariables false
set_option linter.unusedSimpArgs false
namespace Mine

section
variable {prog : Program} {w : World} {A : Around} {s s₀ : Shared} {R R₀ : Heap} {X : List Addr} {L a : Addr} {cd : Value} {m : Str → Option Value} {mg mb : Str → Option Value} {env : Env}

theorem entryP_take {f : Nat} {r : Run} {i : Nat} {p : Nat × Int} (h : r[i]? = some p) : entryP f (r.take (i + 1)) = stepE f (entryP f (r.take i)) p := by
  rw [take_succ_of h, entryP, entryP, List.foldl_append]; rfl
theorem few_step {x y f : Nat} {e : Ent} (hf : Few x y e.rows) {p : Nat × Int} (hc : p.1 = x ∨ p.1 = y) : Few x y (stepE f e p).rows :=
  (few_lapN hc p.2 (st := (e, e.rows, cnt0 f p)) hf hf _).1
theorem few_entry {x y f : Nat} : ∀ {r : Run}, (∀ p ∈ r, p.1 = x ∨ p.1 = y) → ∀ {e : Ent}, Few x y e.rows → Few x y (r.foldl (stepE f) e).rows
  | [], _, _, h => h
  | p :: r, hr, e, h => few_entry (r := r) (fun q hq => hr q (by simp [hq])) (few_step h (hr p (by simp)))
theorem few_0 (x y : Nat) : Few x y entry0.rows := ⟨by simp [entry0], fun p hp => by
  simp only [entry0, List.mem_singleton] at hp; subst hp; exact inW 0 rfl⟩

set_option maxHeartbeats 4000000 in
theorem entry_body (G : GE prog w mg mb R₀) {A : Around} (A' : AOk A 12) {x y f : Nat} {r : Run} {rv : Value} {tf : Tok} (hr : IsRun R₀ rv r) (ht : ∀ p ∈ r, p.2 = 1 ∨ p.2 = -1) (hc : ∀ p ∈ r, p.1 = x ∨ p.1 = y)
    (F : Fm s₀ R₀ [L + 2, L + 1] L m s) (hrun : m "run" = some rv) (hfirst : m "first" = some (.str ⟨#[f]⟩ tf)) (c1 : s.heap.IsCell (L + 1) none) (c2 : s.heap.IsCell (L + 2) none) :
    wpAny (model prog w) A (execs (fn 19).body (e19 L a cd)) (fun fl s' => Ret s₀ R₀ (fun R' v => IsEnt prog w R' v (entryP f r)) (retV fl) s') NoE s := by
  have live : ∀ {s : Shared} {o1 o2}, s.heap.IsCell (L + 1) o1 → s.heap.IsCell (L + 2) o2 → ∀ x ∈ [L + 2, L + 1], (s.heap.get? x).isSome = true := fun h1 h2 x hx => by
    simp only [List.mem_cons, List.not_mem_nil, or_false] at hx
    rcases hx with rfl | rfl
    · exact isCell_live h2
    · exact isCell_live h1
  have hLX : L ∉ [L + 2, L + 1] := by simp
  refine wpAny_execs_cons ?_
  refine wpAny_Assign_Name ?_
  refine Tuple_ ?_
  refine args_cons ?_ ?_
  case refine_2 => rfl
  refine wpAny_Constant_int ?_
  refine args_cons ?_ ?_
  case refine_2 => rfl
  refine wpAny_Constant_int ?_
  refine args_cons ?_ ?_
  case refine_2 => rfl
  refine wpAny_Constant_int ?_
  refine args_cons ?_ ?_
  case refine_2 => rfl
  refine wpAny_Constant_int ?_
  refine args_cons ?_ ?_
  case refine_2 => exact se_Dict ..
  with_reducible refine dictOne fun h₁ tk k₁ hz₁ hD => ?_
  refine args_nil (wpAny_newTuple ?_)
  have F₁ := F.keep (h' := h₁) (tk := tk) k₁
  have c1₁ : h₁.IsCell (L + 1) none := isCell_kb (Y := []) c1 (KB.of_sub k₁) (by simp)
  have c2₁ : h₁.IsCell (L + 2) none := isCell_kb (Y := []) c2 (KB.of_sub k₁) (by simp)
  have loD : (s.heap.objs.size == sysModules) = false := lo_of_ns (G.g.keeps F.has)
  have hDX : s.heap.objs.size ∉ L :: [L + 2, L + 1] := fresh_notin fun x hx => by
    rcases List.mem_cons.mp hx with rfl | hx
    · exact ns_live F.ns
    · exact live c1 c2 x hx
  have F₁' : Fm s₀ R₀ (s.heap.objs.size :: [L + 2, L + 1]) L m { s with heap := h₁, toks := tk } := F₁.priv (F.none_of (get_size_none _)).1 (F.none_of (get_size_none _)).2
  refine Classical.byContradiction fun hNo => ?_
  obtain ⟨R₁, g₁, F₂, hrow⟩ := F₁'.adoptRows (X := [L + 2, L + 1]) (prog := prog) (w := w) (fun x hx => hx) hDX loD hD
  refine hNo ?_
  clear hNo
  generalize s.heap.objs.size = D at hrow ⊢
  have F₃ := F₂.push (tk := tk) { cls := .type "tuple", data := .seq #[.int 0 s.toks, .int 0 (s.toks + 1), .int 0 (s.toks + 1 + 1), .int 0 (s.toks + 1 + 1 + 1), .ref D] }
  obtain ⟨R₂, g₂, F₃, hT⟩ := F₃.adopt (Heap.get?_push_size _ rfl) (F₂.none_of (get_size_none _)).2 (fresh_notin fun x hx => by
    rcases List.mem_cons.mp hx with rfl | hx
    · exact ns_live F₂.ns
    · exact live (s := { s with heap := h₁, toks := tk }) c1₁ c2₁ x hx)
  refine stL F₃ fun s₄ F₄ M₄ => ?_
  have hE : IsEnt prog w R₂ (.ref h₁.objs.size) entry0 := ⟨_, _, _, _, _, D, rfl, ⟨_, hT, rfl, _, rfl⟩, hrow.keeps g₂.sub⟩
  have c1₄ : s₄.heap.IsCell (L + 1) none := isCell_kb (isCell_kb (Y := []) c1₁ (KB.of_sub (sub_push _ _)) (by simp)) M₄.kb (by simp)
  have c2₄ : s₄.heap.IsCell (L + 2) none := isCell_kb (isCell_kb (Y := []) c2₁ (KB.of_sub (sub_push _ _)) (by simp)) M₄.kb (by simp)
  have g02 : Grow R₀ R₂ s₀.heap := g₁.trans g₂ (Sub.refl _)
  refine Classical.byContradiction fun hNo => ?_
  obtain ⟨D₀, vs, rfl, hp, hall⟩ := hr.keeps g02.sub
  refine hNo ?_
  clear hNo
  have hlen := hall.length
  generalize hve : (Value.ref h₁.objs.size) = ve at hE F₄
  refine wpAny_execs_cons ?_
  refine wpFor (nmL F₄ (by rw [if_neg (by decide)]; exact hrun) ?_) (fun _ => rfl)
  refine wpAny_pyIter_list (hp.at fun o e => F₄.has _ o e).isList ?_
  have F₅ := F₄.new (tk := s₄.toks) { cls := .type "list_iterator", data := .fields #[.ref D₀, .int 0 0] }
  have hIt : (s₄.heap.push { cls := .type "list_iterator", data := .fields #[.ref D₀, .int 0 0] }).IsListIter s₄.heap.objs.size D₀ 0 := ⟨_, Heap.get?_push_size _ rfl, rfl, rfl⟩
  have hLI : L ≠ s₄.heap.objs.size := Nat.ne_of_lt F₄.lt
  have n1 : L + 1 ≠ s₄.heap.objs.size := fun e => by have := isCell_live c1₄; rw [e, get_size_none] at this; cases this
  have n2 : L + 2 ≠ s₄.heap.objs.size := fun e => by have := isCell_live c2₄; rw [e, get_size_none] at this; cases this
  have c1₅ := isCell_kb (Y := []) c1₄ (KB.of_sub (sub_push s₄.heap { cls := .type "list_iterator", data := .fields #[.ref D₀, .int 0 0] })) (by simp)
  have c2₅ := isCell_kb (Y := []) c2₄ (KB.of_sub (sub_push s₄.heap { cls := .type "list_iterator", data := .fields #[.ref D₀, .int 0 0] })) (by simp)
  generalize s₄.heap.push { cls := .type "list_iterator", data := .fields #[.ref D₀, .int 0 0] } = H5 at F₅ hIt c1₅ c2₅ ⊢
  generalize s₄.heap.objs.size = I at F₅ hIt hLI n1 n2 ⊢
  have hIR := (F₅.out I (by simp)).1
  have hc1R := (F₅.out (L + 1) (by simp)).1
  have hc2R := (F₅.out (L + 2) (by simp)).1
  have hLR := (F₅.out L (by simp)).1
  have W := walksR (prog := prog) (w := w) (A := A) A'.hh I D₀ hp.isList hIR (Vals := fun i xs => ∃ p a b, r[i]? = some p ∧ xs = #[.str ⟨#[p.1]⟩ a, .int p.2 b]) fun i hi => by
    have := isLT_vals hall i (by rwa [Array.length_toList])
    simpa using this
  refine ⟨fun q s => ∃ i m₁ R₁, q + i = vs.size ∧ Grow R₂ R₁ s₀.heap ∧ Fm s₀ R₁ (I :: [L + 2, L + 1]) L m₁ s ∧ (s.heap.IsListIter I D₀ i ∧ Sub R₂ s.heap) ∧ (∃ u, m₁ "first" = some (.str ⟨#[f]⟩ u)) ∧ (∃ v, m₁ "entry" = some v ∧ IsEnt prog w R₁ v (entryP f (r.take i))) ∧ (∃ o, s.heap.IsCell (L + 1) o) ∧ (∃ o, s.heap.IsCell (L + 2) o), vs.size,
    ⟨0, _, R₂, rfl, Grow.refl _ _, F₅, ⟨hIt, F₅.has⟩, ⟨tf, by rw [if_neg (by decide)]; exact hfirst⟩, ⟨ve, if_pos rfl, hE⟩, ⟨_, c1₅⟩, ⟨_, c2₅⟩⟩, ?_⟩
  intro q s hJo
  refine Classical.byContradiction fun hNo => ?_
  obtain ⟨i, m₁, R₃, hq, g₃, F₆, hst, hf₁, he₁, ⟨o1, hc1⟩, ⟨o2, hc2⟩⟩ := hJo
  refine hNo ?_
  clear hNo
  refine drawC (c1 := L + 1) (c2 := L + 2) W A'.hh F₆ hst (by omega) (by simp) (by simp [hLI]) hc1 hc2 (by simp) (by simp) (by simp only [List.mem_cons, not_or]; exact ⟨n1, notin_dom hc1R⟩) (by simp only [List.mem_cons, not_or]; exact ⟨n2, notin_dom hc2R⟩) (by simp) (by simpa using n1) (by simpa using n2)
    rfl rfl rfl rfl rfl (by rintro i vals ⟨p, a, b, _, rfl⟩; exact ⟨_, _, rfl⟩) (fun hi s₇ F₇ M₇ => ?_) fun hi v1 v2 s₇ hP F₇ hc1₇ hc2₇ M₇ hst₇ => ?_
  · subst hi
    refine Classical.byContradiction fun hNo => ?_
    obtain ⟨v, hv, hEv⟩ := he₁
    refine hNo ?_
    clear hNo
    rw [List.take_of_length_le (by rw [Array.length_toList] at hlen; omega)] at hEv
    exact wpAny_execs_cons (wpAny_Return_some (nmL F₇ hv (F₇.ret R₀ (g02.trans g₃ (Sub.refl _)) hEv)))
  · obtain ⟨p, ta, tb, hp', he⟩ := hP
    obtain ⟨rfl, rfl⟩ : v1 = .str ⟨#[p.1]⟩ ta ∧ v2 = .int p.2 tb := by
      have := congrArg Array.toList he
      simpa using this
    have hpm := List.mem_of_getElem? hp'
    have hfew : Few x y (entryP f (r.take i)).rows := few_entry (fun q hq => hc q (List.mem_of_mem_take hq)) (few_0 x y)
    have xo : XOk (I :: [L + 2, L + 1]) L s₇ := ⟨fun z hz => (by
      rcases List.mem_cons.mp hz with rfl | hz
      · obtain ⟨o, ho, _⟩ := hst₇.1; rw [ho]; rfl
      · exact live hc1₇ hc2₇ z hz), by simp [hLI], by simp, by simp⟩
    refine wpAny_mono (outBody (e := entryP f (r.take i)) G A' (ht p hpm) (hc p hpm) hfew (g02.trans g₃ (Sub.refl _)) F₇ hf₁ he₁ ⟨ta, hc1₇⟩ ⟨tb, hc2₇⟩ xo) (fun fl s₈ h₈ => ?_) fun _ _ q => q
    refine Classical.byContradiction fun hNo => ?_
    obtain ⟨rfl, R₈, m₈, g₈, F₈, hf₈, he₈, xo₈, k₈⟩ := h₈
    refine hNo ?_
    clear hNo
    refine ⟨q - 1, by omega, i + 1, m₈, R₈, by omega, g₃.trans g₈ (Sub.refl _), F₈, ⟨let ⟨o, ho, r⟩ := hst₇.1; ⟨o, k₈ I o (by simpa using Ne.symm hLI) ho, r⟩, fun b o e => k₈ b o (by simp only [List.mem_singleton]; rintro rfl; rw [hLR] at e; cases e) (hst₇.2 b o e)⟩, hf₈, ?_, ⟨_, isCell_kb hc1₇ k₈ (by simp)⟩, ⟨_, isCell_kb hc2₇ k₈ (by simp)⟩⟩
    rw [entryP_take hp']
    exact he₈

theorem entry_spec (G : GE prog w mg mb R) (hA : AOk A 13) (hR : Sub R s.heap) (a : Addr) (ha : mg "_law_entry" = some (.ref a)) {x y f : Nat} {r : Run} {rv : Value} {tf : Tok} (hr : IsRun R rv r) (ht : ∀ p ∈ r, p.2 = 1 ∨ p.2 = -1) (hc : ∀ p ∈ r, p.1 = x ∨ p.1 = y) :
    wpAny (model prog w) A (call (.ref a) [rv, .str ⟨#[f]⟩ tf]) (Ret s R (fun R' v => IsEnt prog w R' v (entryP f r))) NoE s := by
  refine enterC G 19 (k := 12) (binds := [("run", rv), ("first", .str ⟨#[f]⟩ tf)]) hA hR rfl ha (by simp) ?_ ?_ (fun L cd s₁ F _ hcells A' => ?_) rfl rfl rfl
  · exact fun _ _ _ => rfl
  · rfl
  · have c1 : s₁.heap.IsCell (L + 1) none := hcells "letter" (L + 1) rfl
    have c2 : s₁.heap.IsCell (L + 2) none := hcells "turn" (L + 2) rfl
    have F' : Fm s R [L + 2, L + 1] L (bindL (envOfC (fn 19).name (fn 19).scope L a cd).kindOf [(("run" : Str), rv), ("first", .str ⟨#[f]⟩ tf)] fun _ => none) s₁ := F
    generalize hm : (bindL (envOfC (fn 19).name (fn 19).scope L a cd).kindOf [(("run" : Str), rv), ("first", .str ⟨#[f]⟩ tf)] fun _ => none) = m at F'
    have e1 : m "run" = some rv := by rw [← hm]; rfl
    have e2 : m "first" = some (.str ⟨#[f]⟩ tf) := by rw [← hm]; rfl
    with_reducible exact entry_body G A' hr ht hc F' e1 e2 c1 c2
end
end Mine
end
section
open PySem PySem.W PySem.Calls PyProof.Rows
set_option maxRecDepth 100000
set_option linter.unusedVariables false
set_option linter.unusedSimpArgs false
namespace Mine

/-! ## _law_told, what it does -/
noncomputable def signedP (left : Bool) (x y z : Nat) : Kv :=
  if left then [(⟨#[x, y, z]⟩, 1), (⟨#[y, x, z]⟩, -1), (⟨#[z, x, y]⟩, -1), (⟨#[z, y, x]⟩, 1)]
  else [(⟨#[x, y, z]⟩, 1), (⟨#[x, z, y]⟩, -1), (⟨#[y, z, x]⟩, -1), (⟨#[z, y, x]⟩, 1)]
noncomputable def toldRow (tu : Int) (acc : Kv) (p : Str × Int) : Kv := putI acc p.1 ((getI acc p.1).getD 0 + tu * p.2)
noncomputable def toldZ (left : Bool) (tu : Int) (x y : Nat) (acc : Kv) (z : Nat) : Kv := (signedP left x y z).foldl (toldRow tu) acc
noncomputable def toldY (left : Bool) (tu : Int) (x : Nat) (zs : List Nat) (acc : Kv) (y : Nat) : Kv := zs.foldl (toldZ left tu x y) acc
noncomputable def toldX (left : Bool) (tu : Int) (ys zs : List Nat) (acc : Kv) (x : Nat) : Kv := ys.foldl (toldY left tu x zs) acc
noncomputable def turnedP (ds : List Dr) : Int := ds.foldl (fun t d => t * (1 - 2 * (d.und : Int))) 1
noncomputable def nonZero : Kv → Kv := fun l => l.foldl (compStep (fun p => decide (p.2 ≠ 0)) (fun k => k) (fun p => p.2)) []
noncomputable def toldP (left : Bool) (d0 d1 d2 : Dr) : Kv := nonZero (d0.word.foldl (toldX left (turnedP [d0, d1, d2]) d1.word d2.word) [(("" : Str), 1)])

noncomputable def IsSR (h : Heap) (v : Value) (p : Str × Int) : Prop := ∃ T t u, v = .ref T ∧ h.IsTuple T #[.str p.1 t, .int p.2 u]
theorem IsSR.keeps {h h' : Heap} {v : Value} {p : Str × Int} (x : IsSR h v p) (k : Sub h h') : IsSR h' v p := let ⟨T, t, u, e, r⟩ := x; ⟨T, t, u, e, isTuple_keeps r k⟩

section
variable {prog : Program} {w : World} {A : Around} {s s₀ : Shared} {R R₀ : Heap} {X : List Addr} {L a : Addr} {cd : Value} {m : Str → Option Value} {mg mb : Str → Option Value} {env : Env}

noncomputable def FreshIn (h : Heap) (v : Value) : Prop := ∃ T, v = .ref T ∧ h.get? T = none
theorem FreshIn.back {h h' : Heap} {v : Value} (x : FreshIn h' v) (k : Sub h h') : FreshIn h v := by
  obtain ⟨T, e, n⟩ := x
  refine ⟨T, e, ?_⟩
  cases q : h.get? T with
  | none => rfl
  | some o => rw [k T o q] at n; cases n

/-- a + b + c for three letters -/
theorem triple {na nb nc : Str} {p q r : Nat} {tp tq tr : Tok} {p1 p2 p3 p4 p5 : Pos} {Q : Value → Shared → Prop} (F : Fm s₀ R X L m s) (ha : m na = some (.str ⟨#[p]⟩ tp)) (hb : m nb = some (.str ⟨#[q]⟩ tq)) (hc : m nc = some (.str ⟨#[r]⟩ tr))
    (h : ∀ t tk, Q (.str ⟨#[p, q, r]⟩ t) { s with toks := tk })
    (hla : env.kindOf na = some .local) (hlb : env.kindOf nb = some .local) (hlc : env.kindOf nc = some .local) (hk : env.scope.kind = .function) (hL : env.locals = L)
    (hda : (na == ("__debug__" : Str)) = false) (hdb : (nb == ("__debug__" : Str)) = false) (hdc : (nc == ("__debug__" : Str)) = false) :
    wpAny (model prog w) A (eval (.BinOp (.BinOp (.Name na p1) .Add (.Name nb p2) p3) .Add (.Name nc p4) p5) env) Q NoE s := by
  refine wpAny_BinOp (wpAny_BinOp (nmL F ha (nmL F hb ?_ hlb hk hL hdb) hla hk hL hda))
  refine PyProof.Rows.add_str (fun t' tk => ?_) (by show 1 + 1 ≤ sizeLine; decide)
  refine nmL (F.tok (tk := tk)) hc ?_ hlc hk hL hdc
  refine PyProof.Rows.add_str (fun t'' tk' => ?_) (by show 2 + 1 ≤ sizeLine; decide)
  exact h t'' tk'

/-- (a + b + c, k) -/
theorem signRow {na nb nc : Str} {p q r : Nat} {tp tq tr : Tok} {p1 p2 p3 p4 p5 p6 : Pos} {e : Expr} {i : Int} {Q : Value → Shared → Prop} (F : Fm s₀ R X L m s) (ha : m na = some (.str ⟨#[p]⟩ tp)) (hb : m nb = some (.str ⟨#[q]⟩ tq)) (hc : m nc = some (.str ⟨#[r]⟩ tr))
    (he : ∀ (s : Shared) (Q : Value → Shared → Prop), (∀ t tk, Q (.int i t) { s with toks := tk }) → wpAny (model prog w) A (eval e env) Q NoE s)
    (h : ∀ v h' tk, Sub s.heap h' → IsSR h' v (⟨#[p, q, r]⟩, i) → FreshIn s.heap v → Q v { s with heap := h', toks := tk })
    (hse : starEach [e] env = (false, eval e env) :: starEach [] env)
    (hla : env.kindOf na = some .local) (hlb : env.kindOf nb = some .local) (hlc : env.kindOf nc = some .local) (hk : env.scope.kind = .function) (hL : env.locals = L)
    (hda : (na == ("__debug__" : Str)) = false) (hdb : (nb == ("__debug__" : Str)) = false) (hdc : (nc == ("__debug__" : Str)) = false) :
    wpAny (model prog w) A (eval (.Tuple [.BinOp (.BinOp (.Name na p1) .Add (.Name nb p2) p3) .Add (.Name nc p4) p5, e] 0 p6) env) Q NoE s := by
  refine Tuple_ ?_
  refine args_cons ?_ (se_BinOp ..)
  refine triple F ha hb hc (fun t tk => ?_) hla hlb hlc hk hL hda hdb hdc
  refine args_cons (he _ _ fun t' tk' => args_nil (wpAny_newTuple ?_)) hse
  exact h _ _ _ (sub_push _ _) ⟨_, _, _, rfl, _, Heap.get?_push_size _ rfl, rfl, _, rfl⟩ ⟨_, rfl, get_size_none _⟩

theorem plus1 {k : Nat} {p : Pos} : ∀ (s : Shared) (Q : Value → Shared → Prop), (∀ t tk, Q (.int 1 t) { s with toks := tk }) → wpAny (model prog w) A (eval (.Constant (.int 1) k p) env) Q NoE s := fun s Q h => wpAny_Constant_int (h _ _)
theorem minus1 {k : Nat} {p p' : Pos} : ∀ (s : Shared) (Q : Value → Shared → Prop), (∀ t tk, Q (.int (-1) t) { s with toks := tk }) → wpAny (model prog w) A (eval (.UnaryOp .USub (.Constant (.int 1) k p) p') env) Q NoE s := fun s Q h => wpAny_UnaryOp (wpAny_Constant_int (P.neg_int (h _ _)))

/-- a list of four rows -/
theorem fourRows {e1 e2 e3 e4 : Expr} {p1 p2 p3 p4 : Str × Int} {pos : Pos} {Q : Value → Shared → Prop}
    (h1 : ∀ (s' : Shared) (Q : Value → Shared → Prop), Sub s.heap s'.heap → s'.gens = s.gens → s'.os = s.os → (∀ v h' tk, Sub s'.heap h' → IsSR h' v p1 → FreshIn s'.heap v → Q v { s' with heap := h', toks := tk }) → wpAny (model prog w) A (eval e1 env) Q NoE s')
    (h2 : ∀ (s' : Shared) (Q : Value → Shared → Prop), Sub s.heap s'.heap → s'.gens = s.gens → s'.os = s.os → (∀ v h' tk, Sub s'.heap h' → IsSR h' v p2 → FreshIn s'.heap v → Q v { s' with heap := h', toks := tk }) → wpAny (model prog w) A (eval e2 env) Q NoE s')
    (h3 : ∀ (s' : Shared) (Q : Value → Shared → Prop), Sub s.heap s'.heap → s'.gens = s.gens → s'.os = s.os → (∀ v h' tk, Sub s'.heap h' → IsSR h' v p3 → FreshIn s'.heap v → Q v { s' with heap := h', toks := tk }) → wpAny (model prog w) A (eval e3 env) Q NoE s')
    (h4 : ∀ (s' : Shared) (Q : Value → Shared → Prop), Sub s.heap s'.heap → s'.gens = s.gens → s'.os = s.os → (∀ v h' tk, Sub s'.heap h' → IsSR h' v p4 → FreshIn s'.heap v → Q v { s' with heap := h', toks := tk }) → wpAny (model prog w) A (eval e4 env) Q NoE s')
    (h : ∀ D h' tk vs, s.heap.get? D = none → Sub s.heap h' → h'.PlainList D vs → All2 (fun v p => IsSR h' v p) vs.toList [p1, p2, p3, p4] → (∀ v ∈ vs.toList, FreshIn s.heap v) → Q (.ref D) { s with heap := h', toks := tk })
    (s1 : starEach [e1, e2, e3, e4] env = (false, eval e1 env) :: starEach [e2, e3, e4] env) (s2 : starEach [e2, e3, e4] env = (false, eval e2 env) :: starEach [e3, e4] env)
    (s3 : starEach [e3, e4] env = (false, eval e3 env) :: starEach [e4] env) (s4 : starEach [e4] env = (false, eval e4 env) :: starEach [] env) :
    wpAny (model prog w) A (eval (.List [e1, e2, e3, e4] pos) env) Q NoE s := by
  refine wpAny_List (args_cons (h1 _ _ (Sub.refl _) rfl rfl fun v1 g1 t1 K1 P1 N1 => args_cons (h2 _ _ K1 rfl rfl fun v2 g2 t2 K2 P2 N2 => args_cons (h3 _ _ (K1.trans K2) rfl rfl fun v3 g3 t3 K3 P3 N3 => args_cons (h4 _ _ ((K1.trans K2).trans K3) rfl rfl fun v4 g4 t4 K4 P4 N4 => args_nil ⟨by show 4 ≤ sizeLine; decide, ?_⟩) s4) s3) s2) s1)
  have K5 : Sub g4 (g4.push { cls := .type "list", data := .seq [v1, v2, v3, v4].toArray }) := sub_push _ _
  have KA : Sub s.heap g4 := ((K1.trans K2).trans K3).trans K4
  refine h g4.objs.size _ t4 #[v1, v2, v3, v4] ?_ (KA.trans K5) ⟨_, Heap.get?_push_size _ rfl⟩ ⟨P1.keeps (((K2.trans K3).trans K4).trans K5), P2.keeps ((K3.trans K4).trans K5), P3.keeps (K4.trans K5), P4.keeps K5, trivial⟩ (by
    simp only [List.mem_cons, List.not_mem_nil, or_false]
    rintro v (rfl | rfl | rfl | rfl)
    · exact N1
    · exact N2.back K1
    · exact N3.back (K1.trans K2)
    · exact N4.back ((K1.trans K2).trans K3))
  cases e : s.heap.get? g4.objs.size with
  | none => rfl
  | some o => exact absurd (Heap.lt_size (KA _ _ e)) (Nat.lt_irrefl _)
end
end Mine
end
section
open PySem PySem.W PySem.Calls PyProof.Rows
set_option maxRecDepth 100000
set_option linter.unusedVariables false
set_option linter.unusedSimpArgs false
namespace Mine

noncomputable abbrev e20 (L a : Addr) (cd : Value) : Env := envOf (fn 20).name (fn 20).scope L a cd
noncomputable def forBody (s : Stmt) : List Stmt := match s with | .For _ _ b _ _ => b | _ => []
noncomputable def x20 : List Stmt := forBody ((fn 20).body.getD 3 (.Pass ⟨0, 0, 0, 0⟩))
noncomputable def y20 : List Stmt := forBody (x20.getD 0 (.Pass ⟨0, 0, 0, 0⟩))
noncomputable def z20 : List Stmt := forBody (y20.getD 0 (.Pass ⟨0, 0, 0, 0⟩))
noncomputable def r20 : List Stmt := forBody (z20.getD 1 (.Pass ⟨0, 0, 0, 0⟩))

section
variable {prog : Program} {w : World} {A : Around} {s s₀ : Shared} {R R₀ : Heap} {X : List Addr} {L D a : Addr} {cd : Value} {m : Str → Option Value} {mg mb : Str → Option Value}

/-- what _law_told holds on the way -/
structure ToJ (prog : Program) (w : World) (D : Addr) (lv : Value) (left : Bool) (tu : Int) (acc : Kv) (m : Str → Option Value) (s : Shared) : Prop where
  told : m "told" = some (.ref D)
  turned : ∃ t, m "turned" = some (.int tu t)
  letters : m "letters" = some lv
  left : m "left" = some (.bool left)
  dict : ∃ kvs, s.heap.DictOf (strKind prog w) D kvs ∧ All2 rowOk kvs acc
variable {lv : Value} {left : Bool} {tu : Int} {acc : Kv}
theorem ToJ.at {s' : Shared} (x : ToJ prog w D lv left tu acc m s) (k : ∀ o, s.heap.get? D = some o → s'.heap.get? D = some o) : ToJ prog w D lv left tu acc m s' :=
  ⟨x.told, x.turned, x.letters, x.left, let ⟨kvs, h, r⟩ := x.dict; ⟨kvs, h.at k, r⟩⟩
theorem ToJ.re {m' : Str → Option Value} (x : ToJ prog w D lv left tu acc m s) (h : ∀ y ∈ [("told" : Str), "turned", "letters", "left"], m' y = m y) : ToJ prog w D lv left tu acc m' s :=
  ⟨by rw [h _ (by simp)]; exact x.told, by rw [h _ (by simp)]; exact x.turned, by rw [h _ (by simp)]; exact x.letters, by rw [h _ (by simp)]; exact x.left, x.dict⟩
theorem ToJ.live (x : ToJ prog w D lv left tu acc m s) : (s.heap.get? D).isSome = true := by
  refine Classical.byContradiction fun hNo => ?_
  obtain ⟨kvs, hD, _⟩ := x.dict
  refine hNo ?_
  clear hNo
  obtain ⟨o, _, _, ho, _⟩ := hD; rw [ho]; rfl

theorem toldRow_len (tu : Int) (acc : Kv) (p : Str × Int) : (toldRow tu acc p).length ≤ acc.length + 1 := putI_len ..
theorem toldFold_len (tu : Int) : ∀ (b a : Kv), (b.foldl (toldRow tu) a).length ≤ a.length + b.length
  | [], a => Nat.le_refl _
  | p :: b, a => by
    have h := toldFold_len tu b (toldRow tu a p)
    have h2 := toldRow_len tu a p
    simp only [List.foldl_cons, List.length_cons] at h ⊢; omega

set_option maxHeartbeats 1000000 in
/-- told[row] = told.get(row, 0) + turned * count -/
theorem rowStep {A : Around} (F : Fm s₀ R X L m s) (hDX : D ∈ X) (hLX : L ∉ X) (lo : (D == sysModules) = false) (J : ToJ prog w D lv left tu acc m s) {p : Str × Int} (hp : p.2 = 1 ∨ p.2 = -1) {tk tv : Tok} (hn : acc.length ≤ 10000)
    (hr : m "row" = some (.str p.1 tk)) (hc : m "count" = some (.int p.2 tv)) {Q : Flow → Shared → Prop}
    (h : ∀ s', Fm s₀ R X L m s' → ToJ prog w D lv left tu (toldRow tu acc p) m s' → KB [D] s.heap s'.heap → Q .next s') :
    wpAny (model prog w) A (execs r20 (e20 L a cd)) Q NoE s := by
  refine Classical.byContradiction fun hNo => ?_
  obtain ⟨kvs, hD, hall⟩ := J.dict
  obtain ⟨tt, htu⟩ := J.turned
  refine hNo ?_
  clear hNo
  have hkey : (strKind prog w).is p.1 (.str p.1 tk) = true := by show (p.1 == p.1) = true; exact beq_self_eq_true _
  have hlen := hall.length
  have hget := getI_of hall p.1
  -- the store
  have fin : ∀ (g : Int) t1 tk1, (getI acc p.1).getD 0 = g → wpAny (model prog w) A (eval (match r20.getD 0 (.Pass ⟨0, 0, 0, 0⟩) with | .Assign _ (.BinOp _ _ r _) _ => r | _ => .Tuple [] 0 ⟨0, 0, 0, 0⟩) (e20 L a cd)) (fun b s₂ => wpAny (model prog w) A (binaryOp .Add (.int g t1) b) (fun v s₃ =>
      wpAny (model prog w) A (eval (.Name "told" ⟨134, 20, 134, 24⟩) (e20 L a cd)) (fun o s₄ => wpAny (model prog w) A (eval (.Name "row" ⟨134, 25, 134, 28⟩) (e20 L a cd)) (fun i s₅ => wpAny (model prog w) A (setItem o i v) (fun _ s₆ => wpAny (model prog w) A (execs [] (e20 L a cd)) Q NoE s₆) NoE s₅) NoE s₄) NoE s₃) NoE s₂) NoE { s with toks := tk1 } := by
    intro g t1 tk1 hg
    have F₁ := F.tok (tk := tk1)
    refine wpAny_BinOp (nmL F₁ (by exact htu) (nmL F₁ (by exact hc) (PySem.P.mul_int ?_ (.of_right ?_))))
    case refine_2 => rcases hp with hp | hp <;> rw [hp] <;> decide
    refine wpAny_add_int ?_
    have F₂ := F₁.tok (tk := tk1 + 1 + 1)
    refine nmL F₂ (by exact J.told) (nmL F₂ (by exact hr) ?_)
    refine wpAny_setItem_pairs hkey hD (fun h' hD' hs' => ?_) (hsz := by rw [sizeLine_eq]; omega)
    refine wpAny_execs_nil (h _ (F₂.other (KB.of_same hs' hDX) hLX) ⟨J.told, J.turned, J.letters, J.left, _, hD', ?_⟩ (KB.of_same hs' (by simp)))
    rw [toldRow, hg]; exact stored_of hall _ _ _
  refine wpAny_execs_cons ?_
  refine wpAny_Assign_Subscript ?_
  refine wpAny_BinOp ?_
  refine Call_method2 rfl rfl rfl (nmL F (by exact J.told) ⟨"dict", _, PySem.F.plainAttrs_dict, PySem.F.slot_dict_get, PySem.F.type_dict_get, hD.mapOf.typeIs, hD.mapOf.noDict, ?_⟩)
  refine wpAny_dict_get2 (K := Str) (knd := strKind prog w) lo (nmL F (by exact hr) (wpAny_Constant_int ⟨p.1, _, hkey, hD.mapOf, ?_⟩))
  cases hgi : getI acc p.1 with
  | none =>
    rw [hgi] at hget; dsimp only at hget
    rw [hget]
    have := fin 0 s.toks (s.toks + 1 + 1) (by rw [hgi]; rfl)
    exact this
  | some g =>
    rw [hgi] at hget; dsimp only at hget
    obtain ⟨u, hget⟩ := hget
    rw [hget]
    have := fin g u (s.toks + 1 + 1) (by rw [hgi]; rfl)
    exact this
end
end Mine
end
section
open PySem PySem.W PySem.Calls PyProof.Rows
set_option maxRecDepth 100000
set_option linter.unusedVariables false
set_option linter.unusedSimpArgs false
namespace Mine

noncomputable def Ag (ns : List Str) (m m' : Str → Option Value) : Prop := ∀ y, y ∉ ns → m' y = m y
theorem Ag.refl (ns : List Str) (m : Str → Option Value) : Ag ns m m := fun _ _ => rfl
theorem Ag.trans {ns : List Str} {a b c : Str → Option Value} (x : Ag ns a b) (y : Ag ns b c) : Ag ns a c := fun z hz => (y z hz).trans (x z hz)
theorem Ag.mono {ns ns' : List Str} {a b : Str → Option Value} (x : Ag ns a b) (h : ∀ y ∈ ns, y ∈ ns') : Ag ns' a b := fun z hz => x z fun hm => hz (h z hm)
theorem Ag.set {ns : List Str} {a b : Str → Option Value} (x : Ag ns a b) {n : Str} (hn : n ∈ ns) (v : Option Value) : Ag ns a (fun z => if z = n then v else b z) := fun z hz => by
  show (if z = n then v else b z) = a z
  rw [if_neg (show ¬ z = n from fun e => hz (by rw [e]; exact hn))]; exact x z hz

section
variable {prog : Program} {w : World} {A : Around} {s s₀ : Shared} {R R₀ : Heap} {X : List Addr} {L D a : Addr} {cd : Value} {m : Str → Option Value} {mg mb : Str → Option Value} {lv : Value} {left : Bool} {tu : Int} {acc : Kv}

theorem toJ_keys : ∀ y ∈ [("told" : Str), "turned", "letters", "left"], y ∉ [("row" : Str), "count", "signed", "x", "y", "z"] := by decide

set_option maxHeartbeats 1000000 in
/-- for row, count in signed: .. -/
theorem rowsLoop {A : Around} (hh : A.handled = none) (F : Fm s₀ R X L m s) (hX : ∀ x ∈ X, (s.heap.get? x).isSome = true) (hDX : D ∈ X) (hLX : L ∉ X) (lo : (D == sysModules) = false) (J : ToJ prog w D lv left tu acc m s) {rows : Kv} (hp : ∀ p ∈ rows, p.2 = 1 ∨ p.2 = -1) (hn : acc.length + rows.length ≤ 10000)
    {B : Addr} {vs : Array Value} (hs : m "signed" = some (.ref B)) (hB : R.PlainList B vs) (hall : All2 (fun v p => IsSR R v p) vs.toList rows) {Q : Flow → Shared → Prop}
    (h : ∀ m' s', Fm s₀ R X L m' s' → ToJ prog w D lv left tu (rows.foldl (toldRow tu) acc) m' s' → Ag ["row", "count", "signed", "x", "y", "z"] m m' → Ag ["row", "count"] m m' → KB [L, D] s.heap s'.heap → Q .next s') :
    wpAny (model prog w) A (exec (z20.getD 1 (.Pass ⟨0, 0, 0, 0⟩)) (e20 L a cd)) Q NoE s := by
  have hlen := hall.length
  refine wpFor (nmL F hs ?_) (fun _ => rfl)
  refine wpAny_pyIter_list (hB.at fun o e => F.has _ o e).isList ?_
  have F₁ := F.new (tk := s.toks) { cls := .type "list_iterator", data := .fields #[.ref B, .int 0 0] }
  have hIt : (s.heap.push { cls := .type "list_iterator", data := .fields #[.ref B, .int 0 0] }).IsListIter s.heap.objs.size B 0 := ⟨_, Heap.get?_push_size _ rfl, rfl, rfl⟩
  have K₁ : Sub s.heap (s.heap.push { cls := .type "list_iterator", data := .fields #[.ref B, .int 0 0] }) := sub_push _ _
  have hsI := get_size_none s.heap
  have hLI : L ≠ s.heap.objs.size := Nat.ne_of_lt F.lt
  have hDL : D ≠ L := fun e => hLX (e ▸ hDX)
  generalize s.heap.push { cls := .type "list_iterator", data := .fields #[.ref B, .int 0 0] } = H1 at F₁ hIt K₁ ⊢
  generalize s.heap.objs.size = I at F₁ hIt hsI hLI ⊢
  have hDI : D ≠ I := fun e => by have := hX D hDX; rw [e, hsI] at this; cases this
  have hIR := (F₁.out I (by simp)).1
  have hDR := (F₁.out D (by simp [hDX])).1
  have hLR := (F₁.out L (by simp)).1
  have W := walksR (prog := prog) (w := w) (A := A) hh I B hB.isList hIR (Vals := fun i xs => ∃ p t u, rows[i]? = some p ∧ xs = #[.str p.1 t, .int p.2 u]) fun i hi => by
    refine Classical.byContradiction fun hNo => ?_
    obtain ⟨p, hp, T, t, u, e, hT⟩ := hall.get (List.getElem?_eq_getElem (by simpa using hi))
    refine hNo ?_
    clear hNo
    exact ⟨T, _, by simpa using (List.getElem?_eq_getElem (by simpa using hi)).trans (congrArg some e), hT, p, t, u, hp, rfl⟩
  refine loopU (k := 0) (xs := [("row", ⟨133, 20, 133, 23⟩), ("count", ⟨133, 25, 133, 30⟩)]) W hh F₁ ⟨hIt, F₁.has⟩ (by simp) (by simp [hLI, hLX]) (by simp only [List.mem_cons, not_or]; exact ⟨hLI, notin_dom hLR⟩)
    (by rintro i vals ⟨p, a, b, _, rfl⟩; rfl) (by simp only [List.mem_cons, List.not_mem_nil, or_false]; rintro x (rfl | rfl) <;> rfl) rfl rfl [D] (by intro y hy; obtain rfl := List.mem_singleton.mp hy; simp only [List.mem_cons, not_or]; exact ⟨hDI, notin_dom hDR⟩)
    (fun i m' R' s' => R' = R ∧ ToJ prog w D lv left tu ((rows.take i).foldl (toldRow tu) acc) m' s' ∧ Ag ["row", "count"] m m' ∧ KB [L, D, I] s.heap s'.heap) ⟨rfl, J.at (fun o e => K₁ _ _ e), Ag.refl _ _, KB.of_sub K₁⟩
    (fun i m R s s' q M => ⟨q.1, q.2.1.at (M.at (by simp [hDL, hDI])), q.2.2.1, q.2.2.2.trans (M.kb.mono (by simp))⟩)
    (fun i vals m₁ R₁ s₁ hi hP G₁ q F₂ => ?_) fun m₁ R₁ s₁ G₁ F₂ q => ?_
  · obtain ⟨p, tk, tv, hp', rfl⟩ := hP
    refine Classical.byContradiction fun hNo => ?_
    obtain ⟨rfl, J₁, ag, kb⟩ := q
    refine hNo ?_
    clear hNo
    have ag' : Ag ["row", "count"] m (bindAll m₁ [("row" : Str), "count"] [Value.str p.1 tk, .int p.2 tv]) := (ag.set (n := "row") (by simp) _).set (n := "count") (by simp) _
    have J₂ : ToJ prog w D lv left tu ((rows.take i).foldl (toldRow tu) acc) (bindAll m₁ [("row" : Str), "count"] [Value.str p.1 tk, .int p.2 tv]) s₁ := J₁.re fun y hy => by
      have h1 : y ≠ "row" := fun e => toJ_keys y hy (by rw [e]; simp)
      have h2 : y ≠ "count" := fun e => toJ_keys y hy (by rw [e]; simp)
      show (if y = "count" then _ else if y = "row" then _ else m₁ y) = m₁ y
      rw [if_neg h2, if_neg h1]
    have hl := toldFold_len tu (rows.take i) acc
    have hi' : i < rows.length := (List.getElem?_eq_some_iff.mp hp').1
    refine rowStep F₂ (by simp [hDX]) (by simp [hLI, hLX]) lo J₂ (hp p (List.mem_of_getElem? hp')) (by rw [List.length_take] at hl; omega) rfl rfl fun s₃ F₃ J₃ k₃ => ?_
    refine ⟨_, R₁, Grow.refl _ _, F₃, ⟨rfl, ?_, ag', kb.trans (k₃.mono (by simp))⟩, k₃.mono (by simp)⟩
    rw [take_succ_of hp', List.foldl_append]; exact J₃
  · obtain ⟨rfl, J₁, ag, kb⟩ := q
    rw [List.take_of_length_le (by rw [Array.length_toList] at hlen; omega)] at J₁
    refine h m₁ s₁ (F₂.drop fun y hy => List.mem_cons_of_mem _ hy) J₁ (ag.mono (by simp)) ag fun b o hb e => kb b o ?_ e
    simp only [List.mem_cons, List.not_mem_nil, or_false, not_or] at hb ⊢
    exact ⟨hb.1, hb.2, fun q => (by rw [q, hsI] at e; cases e)⟩
end
end Mine
end
section
open PySem PySem.W PySem.Calls PyProof.Rows
set_option maxRecDepth 100000
set_option linter.unusedVariables false
set_option linter.unusedSimpArgs false
namespace Mine

noncomputable def ifT (s : Stmt) : Stmt := match s with | .If _ (b :: _) _ _ => b | _ => .Pass ⟨0, 0, 0, 0⟩
noncomputable def ifE (s : Stmt) : Stmt := match s with | .If _ _ (b :: _) _ => b | _ => .Pass ⟨0, 0, 0, 0⟩
section
variable {prog : Program} {w : World} {A : Around} {s s₀ : Shared} {R R₀ : Heap} {X : List Addr} {L D a : Addr} {cd : Value} {m : Str → Option Value} {mg mb : Str → Option Value} {lv : Value} {left : Bool} {tu : Int} {acc : Kv}

theorem signed_ok (left : Bool) (x y z : Nat) : (∀ p ∈ signedP left x y z, p.2 = 1 ∨ p.2 = -1) ∧ (signedP left x y z).length = 4 := by
  cases left <;> simp [signedP]

set_option maxHeartbeats 1000000 in
theorem signedT {A : Around} (F : Fm s₀ R X L m s) {x y z : Nat} {tx ty tz : Tok} (hx : m "x" = some (.str ⟨#[x]⟩ tx)) (hy : m "y" = some (.str ⟨#[y]⟩ ty)) (hz : m "z" = some (.str ⟨#[z]⟩ tz)) {Q : Flow → Shared → Prop}
    (h : ∀ B vs h' tk, s.heap.get? B = none → Sub s.heap h' → h'.PlainList B vs → All2 (fun v p => IsSR h' v p) vs.toList (signedP true x y z) → (∀ v ∈ vs.toList, FreshIn s.heap v) →
      wpAny (model prog w) A (storeName (e20 L a cd) "signed" (.ref B)) (fun _ s' => Q .next s') NoE { s with heap := h', toks := tk }) :
    wpAny (model prog w) A (exec (ifT (z20.getD 0 (.Pass ⟨0, 0, 0, 0⟩))) (e20 L a cd)) Q NoE s := by
  have FF : ∀ s' : Shared, Sub s.heap s'.heap → s'.gens = s.gens → s'.os = s.os → Fm s₀ R X L m s' := fun s' k g o => ⟨F.step.trans ⟨k, o, fun i y e => by rw [g]; exact e, fun q => by rw [g]; exact q⟩, F.ns.keeps k, F.has.trans k, F.out⟩
  refine wpAny_Assign_Name ?_
  refine fourRows (p1 := (⟨#[x, y, z]⟩, 1)) (p2 := (⟨#[y, x, z]⟩, -1)) (p3 := (⟨#[z, x, y]⟩, -1)) (p4 := (⟨#[z, y, x]⟩, 1)) ?_ ?_ ?_ ?_ (fun B h' tk vs hB k hp al fr => h B vs h' tk hB k hp al fr) ?_ ?_ ?_ ?_
  case refine_1 => exact fun s' Q k g o q => signRow (FF s' k g o) hx hy hz plus1 q rfl rfl rfl rfl rfl rfl rfl rfl rfl
  case refine_2 => exact fun s' Q k g o q => signRow (FF s' k g o) hy hx hz minus1 q (se_UnaryOp ..) rfl rfl rfl rfl rfl rfl rfl rfl
  case refine_3 => exact fun s' Q k g o q => signRow (FF s' k g o) hz hx hy minus1 q (se_UnaryOp ..) rfl rfl rfl rfl rfl rfl rfl rfl
  case refine_4 => exact fun s' Q k g o q => signRow (FF s' k g o) hz hy hx plus1 q rfl rfl rfl rfl rfl rfl rfl rfl rfl
  all_goals exact se_Tuple ..

set_option maxHeartbeats 1000000 in
theorem signedF {A : Around} (F : Fm s₀ R X L m s) {x y z : Nat} {tx ty tz : Tok} (hx : m "x" = some (.str ⟨#[x]⟩ tx)) (hy : m "y" = some (.str ⟨#[y]⟩ ty)) (hz : m "z" = some (.str ⟨#[z]⟩ tz)) {Q : Flow → Shared → Prop}
    (h : ∀ B vs h' tk, s.heap.get? B = none → Sub s.heap h' → h'.PlainList B vs → All2 (fun v p => IsSR h' v p) vs.toList (signedP false x y z) → (∀ v ∈ vs.toList, FreshIn s.heap v) →
      wpAny (model prog w) A (storeName (e20 L a cd) "signed" (.ref B)) (fun _ s' => Q .next s') NoE { s with heap := h', toks := tk }) :
    wpAny (model prog w) A (exec (ifE (z20.getD 0 (.Pass ⟨0, 0, 0, 0⟩))) (e20 L a cd)) Q NoE s := by
  have FF : ∀ s' : Shared, Sub s.heap s'.heap → s'.gens = s.gens → s'.os = s.os → Fm s₀ R X L m s' := fun s' k g o => ⟨F.step.trans ⟨k, o, fun i y e => by rw [g]; exact e, fun q => by rw [g]; exact q⟩, F.ns.keeps k, F.has.trans k, F.out⟩
  refine wpAny_Assign_Name ?_
  refine fourRows (p1 := (⟨#[x, y, z]⟩, 1)) (p2 := (⟨#[x, z, y]⟩, -1)) (p3 := (⟨#[y, z, x]⟩, -1)) (p4 := (⟨#[z, y, x]⟩, 1)) ?_ ?_ ?_ ?_ (fun B h' tk vs hB k hp al fr => h B vs h' tk hB k hp al fr) ?_ ?_ ?_ ?_
  case refine_1 => exact fun s' Q k g o q => signRow (FF s' k g o) hx hy hz plus1 q rfl rfl rfl rfl rfl rfl rfl rfl rfl
  case refine_2 => exact fun s' Q k g o q => signRow (FF s' k g o) hx hz hy minus1 q (se_UnaryOp ..) rfl rfl rfl rfl rfl rfl rfl rfl
  case refine_3 => exact fun s' Q k g o q => signRow (FF s' k g o) hy hz hx minus1 q (se_UnaryOp ..) rfl rfl rfl rfl rfl rfl rfl rfl
  case refine_4 => exact fun s' Q k g o q => signRow (FF s' k g o) hz hy hx plus1 q rfl rfl rfl rfl rfl rfl rfl rfl rfl
  all_goals exact se_Tuple ..

/-- all that is new goes into the reference -/
theorem Fm.adoptNew (F : Fm s₀ R X L m s) (hX : ∀ x ∈ X, (s.heap.get? x).isSome = true) {h' : Heap} {tk : Nat} (k : Sub s.heap h') :
    ∃ R', Grow R R' s₀.heap ∧ Fm s₀ R' X L m { s with heap := h', toks := tk } ∧ ∀ b o, s.heap.get? b = none → h'.get? b = some o → R'.get? b = some o := by
  have F' := F.keep (h' := h') (tk := tk) k
  have hlive : ∀ x ∈ L :: X, (s.heap.get? x).isSome = true := fun x hx => by
    rcases List.mem_cons.mp hx with rfl | hx
    · exact ns_live F.ns
    · exact hX x hx
  refine ⟨only (fun b => (R.get? b).isSome || (s.heap.get? b).isNone) h', ⟨fun b x e => ?_, fun b x e => ?_⟩, ⟨F'.step, F'.ns, fun b x e => ?_, fun x hx => ⟨?_, (F.out x hx).2⟩⟩, fun b o hb ho => ?_⟩
  · rw [only_get, e]; simpa using F'.has b x e
  · rw [only_get] at e
    split at e
    · rename_i hq
      cases er : R.get? b with
      | some y => have := F'.has b y er; rw [show h'.get? b = _ from this] at e; cases e; exact .inl rfl
      | none =>
        rw [er] at hq
        simp at hq
        exact .inr (F.none_of hq).2
    · cases e
  · rw [only_get] at e
    split at e
    · exact e
    · cases e
  · rw [only_get, (F.out x hx).1]
    obtain ⟨o, ho⟩ := Option.isSome_iff_exists.mp (hlive x hx)
    rw [ho]; simp
  · rw [only_get, hb]; simp [ho]
end
end Mine
end
section
open PySem PySem.W PySem.Calls PyProof.Rows
set_option maxRecDepth 100000
set_option linter.unusedVariables false
set_option linter.unusedSimpArgs false
namespace Mine

section
variable {prog : Program} {w : World} {A : Around} {s s₀ : Shared} {R R₀ : Heap} {X : List Addr} {L D a : Addr} {cd : Value} {m : Str → Option Value} {mg mb : Str → Option Value} {lv : Value} {left : Bool} {tu : Int} {acc : Kv}

theorem isSR_new {h h' R' : Heap} {v : Value} {p : Str × Int} (x : IsSR h' v p) (f : FreshIn h v) (hn : ∀ b o, h.get? b = none → h'.get? b = some o → R'.get? b = some o) : IsSR R' v p := by
  refine Classical.byContradiction fun hNo => ?_
  obtain ⟨T, t, u, rfl, o, ho, r⟩ := x
  obtain ⟨T', e, hT⟩ := f
  refine hNo ?_
  clear hNo
  cases e
  exact ⟨T, t, u, rfl, o, hn T o hT ho, r⟩
theorem all2_mem {α β : Type} {P P' : α → β → Prop} : ∀ {as : List α} {bs : List β}, All2 P as bs → (∀ a ∈ as, ∀ b, P a b → P' a b) → All2 P' as bs
  | [], [], _, _ => trivial
  | a :: as, b :: bs, h, k => ⟨k a (by simp) b h.1, all2_mem h.2 fun a ha => k a (by simp [ha])⟩
  | [], _ :: _, h, _ => h.elim
  | _ :: _, [], h, _ => h.elim

set_option maxHeartbeats 1000000 in
theorem zBody {A : Around} (hh : A.handled = none) (F : Fm s₀ R X L m s) (hX : ∀ x ∈ X, (s.heap.get? x).isSome = true) (hDX : D ∈ X) (hLX : L ∉ X) (lo : (D == sysModules) = false) (J : ToJ prog w D lv left tu acc m s) (hn : acc.length ≤ 9000)
    {x y z : Nat} {tx ty tz : Tok} (hx : m "x" = some (.str ⟨#[x]⟩ tx)) (hy : m "y" = some (.str ⟨#[y]⟩ ty)) (hz : m "z" = some (.str ⟨#[z]⟩ tz)) {Q : Flow → Shared → Prop}
    (h : ∀ R' m' s', Grow R R' s₀.heap → Fm s₀ R' X L m' s' → ToJ prog w D lv left tu (toldZ left tu x y acc z) m' s' → Ag ["row", "count", "signed"] m m' → KB [L, D] s.heap s'.heap → Q .next s') :
    wpAny (model prog w) A (execs z20 (e20 L a cd)) Q NoE s := by
  have hDL : D ≠ L := fun e => hLX (e ▸ hDX)
  have fin : ∀ B vs h' tk, s.heap.get? B = none → Sub s.heap h' → h'.PlainList B vs → All2 (fun v p => IsSR h' v p) vs.toList (signedP left x y z) → (∀ v ∈ vs.toList, FreshIn s.heap v) →
      wpAny (model prog w) A (storeName (e20 L a cd) "signed" (.ref B)) (fun _ s' => wpAny (model prog w) A (execs (z20.drop 1) (e20 L a cd)) Q NoE s') NoE { s with heap := h', toks := tk } := by
    intro B vs h' tk hB k ⟨n, hp⟩ al fr
    refine Classical.byContradiction fun hNo => ?_
    obtain ⟨R₁, g₁, F₁, hnew⟩ := F.adoptNew hX (tk := tk) k
    refine hNo ?_
    clear hNo
    have al₁ := all2_mem al fun v hv p q => isSR_new q (fr v hv) hnew
    refine stL F₁ fun s₂ F₂ M₂ => ?_
    have J₂ : ToJ prog w D lv left tu acc (fun z => if z = "signed" then some (.ref B) else m z) s₂ := (J.at (s' := s₂) fun o e => M₂.kb D o (by simpa using hDL) (k D o e)).re fun y hy => by
      have h1 : y ≠ "signed" := fun e => toJ_keys y hy (by rw [e]; simp)
      show (if y = "signed" then _ else m y) = m y
      rw [if_neg h1]
    have hX₂ : ∀ x ∈ X, (s₂.heap.get? x).isSome = true := fun x hx => by
      obtain ⟨o, ho⟩ := Option.isSome_iff_exists.mp (hX x hx)
      rw [M₂.kb x o (by simp only [List.mem_singleton]; exact fun q => hLX (q ▸ hx)) (k x o ho)]; rfl
    have hso := signed_ok left x y z
    refine wpAny_execs_cons ?_
    refine rowsLoop hh F₂ hX₂ hDX hLX lo J₂ hso.1 (by omega) (by exact if_pos rfl) ⟨n, hnew B _ hB hp⟩ al₁ fun m' s' F' J' _ ag kb => ?_
    refine wpAny_execs_nil (h R₁ m' s' g₁ F' J' (Ag.trans ((Ag.refl _ m).set (n := "signed") (by simp) _) (ag.mono (by simp))) (((KB.of_sub k).trans (M₂.kb.mono (by simp))).trans kb))
  refine wpAny_execs_cons ?_
  refine wpAny_If (isTrue_plain (nmL F J.left (wpAny_truthy_bool ?_)))
  cases left with
  | true =>
    refine wp_if_t rfl ?_
    refine wpAny_execs_cons ?_
    refine signedT F hx hy hz fun B vs h' tk hB k hp al fr => wpAny_mono (fin B vs h' tk hB k hp al fr) (fun _ s' q => wpAny_execs_nil q) fun _ _ q => q
  | false =>
    refine wp_if_f rfl ?_
    refine wpAny_execs_cons ?_
    refine signedF F hx hy hz fun B vs h' tk hB k hp al fr => wpAny_mono (fin B vs h' tk hB k hp al fr) (fun _ s' q => wpAny_execs_nil q) fun _ _ q => q
end
end Mine
end
section
open PySem PySem.W PySem.Calls PyProof.Rows
set_option maxRecDepth 100000
set_option linter.unusedVariables false
set_option linter.unusedSimpArgs false
namespace Mine

noncomputable def IsDrs (h : Heap) (v : Value) (ds : List Dr) : Prop := ∃ D vs, v = .ref D ∧ h.PlainList D vs ∧ All2 (fun v d => IsDr h v d) vs.toList ds
theorem IsDrs.keeps {h h' : Heap} {v : Value} {ds : List Dr} (x : IsDrs h v ds) (k : Sub h h') : IsDrs h' v ds :=
  let ⟨D, vs, e, p, a⟩ := x; ⟨D, vs, e, p.at (fun o => k D o), All2.mono (fun _ _ y => y.keeps k) a⟩

section
variable {prog : Program} {w : World} {A : Around} {s s₀ : Shared} {R R₀ : Heap} {X : List Addr} {L D a : Addr} {cd : Value} {m : Str → Option Value} {mg mb : Str → Option Value} {lv : Value} {left : Bool} {tu : Int} {acc : Kv}

/-- letters[i][2] -/
theorem wordAt {env : Env} {A : Around} {i : Nat} {d : Dr} {ds : List Dr} {k1 k2 : Nat} {p1 p2 p3 p4 p5 : Pos} {Q : Value → Shared → Prop} (F : Fm s₀ R X L m s) (hl : m "letters" = some lv) (hd : IsDrs R lv ds) (hi : ds[i]? = some d) (hi2 : i < 1000)
    (h : ∀ t tk, Q (.str ⟨d.word.toArray⟩ t) { s with toks := tk })
    (hk1 : env.kindOf "letters" = some .local) (hk : env.scope.kind = .function) (hL : env.locals = L) :
    wpAny (model prog w) A (eval (.Subscript (.Subscript (.Name "letters" p1) (.Constant (.int (i : Int)) k1 p2) p3) (.Constant (.int 2) k2 p4) p5) env) Q NoE s := by
  refine Classical.byContradiction fun hNo => ?_
  obtain ⟨D₁, vs, rfl, hp, al⟩ := hd
  obtain ⟨v, hv, T, t1, t2, t3, t4, rfl, hT⟩ := al.get' hi
  refine hNo ?_
  clear hNo
  refine Subscript_ (Subscript_ (nmL F hl (wpAny_Constant_int ?_) hk1 hk hL))
  refine itemL (hp.at fun o e => F.has _ o e).isList (by omega) (by omega) (x := .ref T) (by simpa using hv) ?_ rfl
  refine wpAny_Constant_int ?_
  have F₁ := F.tok (tk := s.toks + 1 + 1)
  refine subscriptTail_builtinR (x := .str ⟨d.word.toArray⟩ t3) (T := "tuple") (Heap.IsTuple.typeIs (isTuple_keeps hT F₁.has)) PyProof.Rows.slot_tuple_getitem.lookup ?_ rfl
  exact PyProof.Rows.getItem_tuple (items := #[.str ⟨d.ahead.toArray⟩ t1, .str ⟨#[d.sign]⟩ t2, .str ⟨d.word.toArray⟩ t3, .int (d.und : Int) t4]) (j := 2) (isTuple_keeps hT F₁.has) (by decide) (by decide) rfl rfl ⟨rfl, h _ _⟩

/-- what the body of a loop over letters does -/
noncomputable def BodyOk (prog : Program) (w : World) (A : Around) (s₀ : Shared) (D : Addr) (lv : Value) (left : Bool) (tu : Int) (L : Addr) (env : Env) (ns : List Str) (nm : Str) (P : (Str → Option Value) → Prop) (ds : List Dr) (f : Kv → Nat → Kv) (Nb : Nat) (body : List Stmt) : Prop :=
  ∀ {acc : Kv} {m : Str → Option Value} {R : Heap} {X : List Addr} {s : Shared} {c : Nat} {tc : Tok} {Q : Flow → Shared → Prop}, Fm s₀ R X L m s → (∀ x ∈ X, (s.heap.get? x).isSome = true) → D ∈ X → L ∉ X → ToJ prog w D lv left tu acc m s → acc.length ≤ Nb → IsDrs R lv ds → P m → m nm = some (.str ⟨#[c]⟩ tc) →
    (∀ R' m' s', Grow R R' s₀.heap → Fm s₀ R' X L m' s' → ToJ prog w D lv left tu (f acc c) m' s' → Ag ns m m' → KB [L, D] s.heap s'.heap → Q .next s') → wpAny (model prog w) A (execs body env) Q NoE s

theorem foldl_len {f : Kv → Nat → Kv} {g : Nat} (hg : ∀ acc c, (f acc c).length ≤ acc.length + g) : ∀ (cs : List Nat) (acc : Kv), (cs.foldl f acc).length ≤ acc.length + cs.length * g
  | [], acc => by simp
  | c :: cs, acc => by
    have h1 := foldl_len hg cs (f acc c)
    have h2 := hg acc c
    rw [List.foldl_cons, List.length_cons, Nat.add_mul]; omega

set_option maxHeartbeats 1000000 in
theorem charLoop {env : Env} {A : Around} (hh : A.handled = none) {nm : Str} {np pos : Pos} {ns : List Str} {P : (Str → Option Value) → Prop} {f : Kv → Nat → Kv} {Nb g : Nat} {body : List Stmt} {iter : Expr} {ds : List Dr} {wd : List Nat}
    (hB : BodyOk prog w A s₀ D lv left tu L env ns nm P ds f Nb body) (hg : ∀ acc c, (f acc c).length ≤ acc.length + g) (hP : ∀ m m', Ag ns m m' → P m → P m') (hnm : nm ∈ ns) (hns : ∀ y ∈ ns, y ∉ [("told" : Str), "turned", "letters", "left"])
    (F : Fm s₀ R X L m s) (hX : ∀ x ∈ X, (s.heap.get? x).isSome = true) (hDX : D ∈ X) (hLX : L ∉ X) (J : ToJ prog w D lv left tu acc m s) (hn : acc.length + wd.length * g ≤ Nb) (hds : IsDrs R lv ds) (hPm : P m)
    (hiter : ∀ Q : Value → Shared → Prop, (∀ t tk, Q (.str ⟨wd.toArray⟩ t) { s with toks := tk }) → wpAny (model prog w) A (eval iter env) Q NoE s)
    {Q : Flow → Shared → Prop} (h : ∀ R' m' s', Grow R R' s₀.heap → Fm s₀ R' X L m' s' → ToJ prog w D lv left tu (wd.foldl f acc) m' s' → Ag ns m m' → KB [L, D] s.heap s'.heap → Q .next s')
    (hl : env.kindOf nm = some .local) (hk : env.scope.kind = .function) (hL : env.locals = L) (hs : ∀ x, foldedSetIterable iter env x = pure x) :
    wpAny (model prog w) A (exec (.For (.Name nm np) iter body [] pos) env) Q NoE s := by
  refine wpFor (hiter _ fun t tk => wpAny_pyIter_strU ?_) hs
  have F₀ := F.tok (tk := tk)
  have F₁ := F₀.new (tk := tk) { cls := .type (strIterType ⟨wd.toArray⟩), data := .fields #[.str ⟨wd.toArray⟩ t, .int 0 0] }
  have hIt : (s.heap.push { cls := .type (strIterType ⟨wd.toArray⟩), data := .fields #[.str ⟨wd.toArray⟩ t, .int 0 0] }).IsStrIter s.heap.objs.size (strIterType ⟨wd.toArray⟩) ⟨wd.toArray⟩ t 0 := ⟨_, Heap.get?_push_size _ rfl, rfl, rfl⟩
  have K₁ : Sub s.heap (s.heap.push { cls := .type (strIterType ⟨wd.toArray⟩), data := .fields #[.str ⟨wd.toArray⟩ t, .int 0 0] }) := sub_push _ _
  have hsI := get_size_none s.heap
  have hLI : L ≠ s.heap.objs.size := Nat.ne_of_lt F.lt
  have hDL : D ≠ L := fun e => hLX (e ▸ hDX)
  dsimp only at F₁ ⊢
  generalize s.heap.push { cls := .type (strIterType ⟨wd.toArray⟩), data := .fields #[.str ⟨wd.toArray⟩ t, .int 0 0] } = H1 at F₁ hIt K₁ ⊢
  generalize s.heap.objs.size = I at F₁ hIt hsI hLI ⊢
  have hDI : D ≠ I := fun e => by have := hX D hDX; rw [e, hsI] at this; cases this
  have hIX : I ∉ X := fun hm => by have := hX I hm; rw [hsI] at this; cases this
  refine loopV (strWalks hh I ⟨wd.toArray⟩ t) F₁ hIt (by simp) (by simp [hLI, hLX]) (by simp [hLI]) hl hk hL [D] (by simp [hDI])
    (fun i m' R' s' => ToJ prog w D lv left tu ((wd.take i).foldl f acc) m' s' ∧ Ag ns m m' ∧ KB [L, D, I] s.heap s'.heap) ⟨J.at (fun o e => K₁ _ _ e), Ag.refl _ _, KB.of_sub K₁⟩
    (fun i m R s s' q M => ⟨q.1.at (M.at (by simp [hDL, hDI])), q.2.1, q.2.2.trans (M.kb.mono (by simp))⟩)
    (fun i v m₁ R₁ s₁ hi hv G₁ q hst F₂ => ?_) fun m₁ R₁ s₁ G₁ F₂ q => ?_
  · obtain ⟨c, u, hc, rfl⟩ := hv
    refine Classical.byContradiction fun hNo => ?_
    obtain ⟨J₁, ag, kb⟩ := q
    refine hNo ?_
    clear hNo
    have hc' : wd[i]? = some c := by simpa using hc
    have hi' : i < wd.length := (List.getElem?_eq_some_iff.mp hc').1
    have J₂ : ToJ prog w D lv left tu ((wd.take i).foldl f acc) (fun y => if y = nm then some (.str ⟨#[c]⟩ u) else m₁ y) s₁ := J₁.re fun y hy => by
      show (if y = nm then _ else m₁ y) = m₁ y
      rw [if_neg (show ¬ y = nm from fun e => hns nm hnm (by rw [← e]; exact hy))]
    have hX₁ : ∀ x ∈ I :: X, (s₁.heap.get? x).isSome = true := fun x hx => by
      rcases List.mem_cons.mp hx with rfl | hx
      · obtain ⟨o, ho, _⟩ := hst; rw [ho]; rfl
      · by_cases hxD : x = D
        · subst hxD; exact J₁.live
        · obtain ⟨o, ho⟩ := Option.isSome_iff_exists.mp (hX x hx)
          rw [kb x o (by simp only [List.mem_cons, List.not_mem_nil, or_false, not_or]; exact ⟨fun e => hLX (e ▸ hx), hxD, fun e => hIX (e ▸ hx)⟩) ho]; rfl
    have hl1 := foldl_len hg (wd.take i) acc
    have hl2 : (wd.take i).length * g ≤ wd.length * g := Nat.mul_le_mul_right _ (by rw [List.length_take]; omega)
    have ag₂ : Ag ns m (fun y => if y = nm then some (.str ⟨#[c]⟩ u) else m₁ y) := ag.set hnm _
    refine hB F₂ hX₁ (by simp [hDX]) (by simp [hLI, hLX]) J₂ (by omega) (hds.keeps G₁.sub) (hP _ _ ag₂ hPm) (by exact if_pos rfl) fun R₃ m₃ s₃ g₃ F₃ J₃ ag₃ k₃ => ?_
    refine ⟨m₃, R₃, g₃, F₃, ⟨?_, ag₂.trans ag₃, kb.trans (k₃.mono (by simp))⟩, k₃⟩
    rw [take_succ_of hc', List.foldl_append]; exact J₃
  · obtain ⟨J₁, ag, kb⟩ := q
    rw [List.take_of_length_le (by simp)] at J₁
    refine h R₁ m₁ s₁ G₁ (F₂.drop fun y hy => List.mem_cons_of_mem _ hy) J₁ ag fun b o hb e => kb b o ?_ e
    simp only [List.mem_cons, List.not_mem_nil, or_false, not_or] at hb ⊢
    exact ⟨hb.1, hb.2, fun q => (by rw [q, hsI] at e; cases e)⟩
end
end Mine
end
section
open PySem PySem.W PySem.Calls PyProof.Rows
set_option maxRecDepth 100000
set_option linter.unusedVariables false
set_option linter.unusedSimpArgs false
namespace Mine

section
variable {prog : Program} {w : World} {A : Around} {s s₀ : Shared} {R R₀ : Heap} {X : List Addr} {L D a : Addr} {cd : Value} {m : Str → Option Value} {mg mb : Str → Option Value} {lv : Value} {left : Bool} {tu : Int} {acc : Kv}

theorem toldZ_len (left : Bool) (tu : Int) (x y : Nat) (acc : Kv) (z : Nat) : (toldZ left tu x y acc z).length ≤ acc.length + 4 := by
  have h := toldFold_len tu (signedP left x y z) acc
  rw [(signed_ok left x y z).2] at h; exact h
theorem toldY_len (left : Bool) (tu : Int) (x : Nat) (zs : List Nat) (acc : Kv) (y : Nat) : (toldY left tu x zs acc y).length ≤ acc.length + zs.length * 4 := foldl_len (toldZ_len left tu x y) zs acc
theorem toldX_len (left : Bool) (tu : Int) (ys zs : List Nat) (acc : Kv) (x : Nat) : (toldX left tu ys zs acc x).length ≤ acc.length + ys.length * (zs.length * 4) := foldl_len (toldY_len left tu x zs) ys acc

theorem zOk {A : Around} (hh : A.handled = none) (lo : (D == sysModules) = false) (x y : Nat) (ds : List Dr) :
    BodyOk prog w A s₀ D lv left tu L (e20 L a cd) ["row", "count", "signed", "z"] "z" (fun m => (∃ t, m "x" = some (.str ⟨#[x]⟩ t)) ∧ ∃ t, m "y" = some (.str ⟨#[y]⟩ t)) ds (toldZ left tu x y) 9000 z20 := by
  intro acc m R X s c tc Q F hX hDX hLX J hn hds hP hc h
  refine Classical.byContradiction fun hNo => ?_
  obtain ⟨⟨tx, hx⟩, ty, hy⟩ := hP
  refine hNo ?_
  clear hNo
  exact zBody hh F hX hDX hLX lo J hn hx hy hc fun R' m' s' g F' J' ag kb => h R' m' s' g F' J' (ag.mono (by simp)) kb

theorem yOk {A : Around} (hh : A.handled = none) (lo : (D == sysModules) = false) (x : Nat) (ds : List Dr) {d : Dr} (hd : ds[2]? = some d) (hl : d.word.length ≤ 4) :
    BodyOk prog w A s₀ D lv left tu L (e20 L a cd) ["row", "count", "signed", "z", "y"] "y" (fun m => ∃ t, m "x" = some (.str ⟨#[x]⟩ t)) ds (toldY left tu x d.word) 8000 y20 := by
  intro acc m R X s c tc Q F hX hDX hLX J hn hds hP hc h
  refine wpAny_execs_cons ?_
  refine charLoop (nm := "z") (ns := ["row", "count", "signed", "z"]) (wd := d.word) (g := 4) hh (zOk hh lo x c ds) (toldZ_len left tu x c) (fun m m' ag hp => ?_) (by simp) (by decide) F hX hDX hLX J (by omega) hds ⟨hP, tc, hc⟩
    (fun Q q => wordAt (i := 2) F J.letters hds hd (by omega) q rfl rfl rfl) (fun R' m' s' g F' J' ag kb => wpAny_execs_nil (h R' m' s' g F' J' (ag.mono fun q hq => List.mem_append_left [("y" : Str)] hq) kb)) rfl rfl rfl (fun _ => rfl)
  refine Classical.byContradiction fun hNo => ?_
  obtain ⟨⟨t, h1⟩, u, h2⟩ := hp
  refine hNo ?_
  clear hNo
  exact ⟨⟨t, (ag "x" (by decide)).trans h1⟩, u, (ag "y" (by decide)).trans h2⟩

theorem xOk {A : Around} (hh : A.handled = none) (lo : (D == sysModules) = false) (ds : List Dr) {d1 d2 : Dr} (h1 : ds[1]? = some d1) (h2 : ds[2]? = some d2) (hl1 : d1.word.length ≤ 4) (hl2 : d2.word.length ≤ 4) :
    BodyOk prog w A s₀ D lv left tu L (e20 L a cd) ["row", "count", "signed", "z", "y", "x"] "x" (fun _ => True) ds (toldX left tu d1.word d2.word) 7000 x20 := by
  intro acc m R X s c tc Q F hX hDX hLX J hn hds hP hc h
  refine wpAny_execs_cons ?_
  have hm : d1.word.length * (d2.word.length * 4) ≤ 4 * (4 * 4) := Nat.mul_le_mul hl1 (Nat.mul_le_mul_right _ hl2)
  refine charLoop (nm := "y") (ns := ["row", "count", "signed", "z", "y"]) (wd := d1.word) (g := d2.word.length * 4) hh (yOk hh lo c ds h2 hl2) (toldY_len left tu c d2.word) (fun m m' ag hp => ?_) (by simp) (by decide) F hX hDX hLX J (by omega) hds ⟨tc, hc⟩
    (fun Q q => wordAt (i := 1) F J.letters hds h1 (by omega) q rfl rfl rfl) (fun R' m' s' g F' J' ag kb => wpAny_execs_nil (h R' m' s' g F' J' (ag.mono fun q hq => List.mem_append_left [("x" : Str)] hq) kb)) rfl rfl rfl (fun _ => rfl)
  obtain ⟨t, h1⟩ := hp
  exact ⟨t, (ag "x" (by decide)).trans h1⟩

theorem xLoop {A : Around} (hh : A.handled = none) (lo : (D == sysModules) = false) {ds : List Dr} {d0 d1 d2 : Dr} (h0 : ds[0]? = some d0) (h1 : ds[1]? = some d1) (h2 : ds[2]? = some d2) (hl0 : d0.word.length ≤ 4) (hl1 : d1.word.length ≤ 4) (hl2 : d2.word.length ≤ 4)
    (F : Fm s₀ R X L m s) (hX : ∀ x ∈ X, (s.heap.get? x).isSome = true) (hDX : D ∈ X) (hLX : L ∉ X) (J : ToJ prog w D lv left tu acc m s) (hn : acc.length ≤ 100) (hds : IsDrs R lv ds) {Q : Flow → Shared → Prop}
    (h : ∀ R' m' s', Grow R R' s₀.heap → Fm s₀ R' X L m' s' → ToJ prog w D lv left tu (d0.word.foldl (toldX left tu d1.word d2.word) acc) m' s' → KB [L, D] s.heap s'.heap → Q .next s') :
    wpAny (model prog w) A (exec ((fn 20).body.getD 3 (.Pass ⟨0, 0, 0, 0⟩)) (e20 L a cd)) Q NoE s := by
  have hm : d1.word.length * (d2.word.length * 4) ≤ 4 * (4 * 4) := Nat.mul_le_mul hl1 (Nat.mul_le_mul_right _ hl2)
  have hm' : d0.word.length * (d1.word.length * (d2.word.length * 4)) ≤ 4 * (4 * (4 * 4)) := Nat.mul_le_mul hl0 hm
  refine charLoop (nm := "x") (ns := ["row", "count", "signed", "z", "y", "x"]) (wd := d0.word) (g := d1.word.length * (d2.word.length * 4)) hh (xOk hh lo ds h1 h2 hl1 hl2) (toldX_len left tu d1.word d2.word) (fun m m' ag hp => trivial) (by simp) (by decide) F hX hDX hLX J (by omega) hds trivial
    (fun Q q => wordAt (i := 0) F J.letters hds h0 (by omega) q rfl rfl rfl) (fun R' m' s' g F' J' ag kb => h R' m' s' g F' J' kb) rfl rfl rfl (fun _ => rfl)
end
end Mine
end
section
open PySem PySem.W PySem.Calls PyProof.Rows
set_option maxRecDepth 100000
set_option linter.unusedVariables false
set_option linter.unusedSimpArgs false
namespace Mine

section
variable {prog : Program} {w : World} {A : Around} {s s₀ : Shared} {R R₀ : Heap} {X : List Addr} {L D a : Addr} {cd : Value} {m : Str → Option Value} {mg mb : Str → Option Value} {lv : Value} {left : Bool} {tu : Int} {acc : Kv}

theorem turnedP_take {ds : List Dr} {i : Nat} {d : Dr} (h : ds[i]? = some d) : turnedP (ds.take (i + 1)) = turnedP (ds.take i) * (1 - 2 * (d.und : Int)) := by
  rw [take_succ_of h, turnedP, turnedP, List.foldl_append]; rfl

set_option maxHeartbeats 1000000 in
/-- for ahead, sign, word, undone in letters: turned = .. -/
theorem turnLoop {A : Around} (hh : A.handled = none) (F : Fm s₀ R X L m s) (hX : ∀ x ∈ X, (s.heap.get? x).isSome = true) (hDX : D ∈ X) (hLX : L ∉ X) (J : ToJ prog w D lv left 1 acc m s) {ds : List Dr} (hds : IsDrs R lv ds) (hu : ∀ d ∈ ds, d.und ≤ 1) {Q : Flow → Shared → Prop}
    (h : ∀ m' s', Fm s₀ R X L m' s' → ToJ prog w D lv left (turnedP ds) acc m' s' → KB [L] s.heap s'.heap → Q .next s') :
    wpAny (model prog w) A (exec ((fn 20).body.getD 2 (.Pass ⟨0, 0, 0, 0⟩)) (e20 L a cd)) Q NoE s := by
  refine Classical.byContradiction fun hNo => ?_
  obtain ⟨B, vs, rfl, hB, hall⟩ := hds
  refine hNo ?_
  clear hNo
  have hlen := hall.length
  refine wpFor (nmL F J.letters ?_) (fun _ => rfl)
  refine wpAny_pyIter_list (hB.at fun o e => F.has _ o e).isList ?_
  have F₁ := F.new (tk := s.toks) { cls := .type "list_iterator", data := .fields #[.ref B, .int 0 0] }
  have hIt : (s.heap.push { cls := .type "list_iterator", data := .fields #[.ref B, .int 0 0] }).IsListIter s.heap.objs.size B 0 := ⟨_, Heap.get?_push_size _ rfl, rfl, rfl⟩
  have K₁ : Sub s.heap (s.heap.push { cls := .type "list_iterator", data := .fields #[.ref B, .int 0 0] }) := sub_push _ _
  have hsI := get_size_none s.heap
  have hLI : L ≠ s.heap.objs.size := Nat.ne_of_lt F.lt
  have hDL : D ≠ L := fun e => hLX (e ▸ hDX)
  generalize s.heap.push { cls := .type "list_iterator", data := .fields #[.ref B, .int 0 0] } = H1 at F₁ hIt K₁ ⊢
  generalize s.heap.objs.size = I at F₁ hIt hsI hLI ⊢
  have hDI : D ≠ I := fun e => by have := hX D hDX; rw [e, hsI] at this; cases this
  have hIR := (F₁.out I (by simp)).1
  have hLR := (F₁.out L (by simp)).1
  have W := walksR (prog := prog) (w := w) (A := A) hh I B hB.isList hIR (Vals := fun i xs => ∃ d t1 t2 t3 t4, ds[i]? = some d ∧ xs = #[.str ⟨d.ahead.toArray⟩ t1, .str ⟨#[d.sign]⟩ t2, .str ⟨d.word.toArray⟩ t3, .int (d.und : Int) t4]) fun i hi => by
    refine Classical.byContradiction fun hNo => ?_
    obtain ⟨d, hd, T, t1, t2, t3, t4, e, hT⟩ := hall.get (List.getElem?_eq_getElem (by simpa using hi))
    refine hNo ?_
    clear hNo
    exact ⟨T, _, by simpa using (List.getElem?_eq_getElem (by simpa using hi)).trans (congrArg some e), hT, d, t1, t2, t3, t4, hd, rfl⟩
  refine loopU (k := 0) (xs := [("ahead", ⟨124, 8, 124, 13⟩), ("sign", ⟨124, 15, 124, 19⟩), ("word", ⟨124, 21, 124, 25⟩), ("undone", ⟨124, 27, 124, 33⟩)]) W hh F₁ ⟨hIt, F₁.has⟩ (by simp) (by simp [hLI, hLX]) (by simp only [List.mem_cons, not_or]; exact ⟨hLI, notin_dom hLR⟩)
    (by rintro i vals ⟨d, t1, t2, t3, t4, _, rfl⟩; rfl) (by simp only [List.mem_cons, List.not_mem_nil, or_false]; rintro x (rfl | rfl | rfl | rfl) <;> rfl) rfl rfl [] (by simp)
    (fun i m' R' s' => R' = R ∧ ToJ prog w D (.ref B) left (turnedP (ds.take i)) acc m' s' ∧ KB [L, I] s.heap s'.heap) ⟨rfl, J.at (fun o e => K₁ _ _ e), KB.of_sub K₁⟩
    (fun i m R s s' q M => ⟨q.1, q.2.1.at (M.at (by simp [hDL, hDI])), q.2.2.trans (M.kb.mono (by simp))⟩)
    (fun i vals m₁ R₁ s₁ hi hP G₁ q F₂ => ?_) fun m₁ R₁ s₁ G₁ F₂ q => ?_
  · obtain ⟨d, t1, t2, t3, t4, hd, rfl⟩ := hP
    refine Classical.byContradiction fun hNo => ?_
    obtain ⟨rfl, J₁, kb⟩ := q
    obtain ⟨tt, htu⟩ := J₁.turned
    refine hNo ?_
    clear hNo
    have hd1 := hu d (List.mem_of_getElem? hd)
    refine wpAny_execs_cons ?_
    refine wpAny_Assign_Name (wpAny_BinOp (nmL F₂ (by exact htu) (wpAny_BinOp (wpAny_Constant_int (wpAny_BinOp (wpAny_Constant_int (nmL (F₂.tok (tk := s₁.toks + 1 + 1)) rfl (PySem.P.mul_int ?_ (.of_left (by decide))))))))))
    refine PySem.P.sub_int (PySem.P.mul_int ?_ (.of_right ?_))
    case refine_2 => rcases (show d.und = 0 ∨ d.und = 1 by omega) with e | e <;> rw [e] <;> decide
    refine stL (F₂.tok (tk := s₁.toks + 1 + 1 + 1 + 1 + 1)) fun s₃ F₃ M₃ => ?_
    have J₃ : ToJ prog w D (.ref B) left (turnedP (ds.take (i + 1))) acc (fun z => if z = "turned" then some (.int (turnedP (ds.take i) * (1 - 2 * (d.und : Int))) (s₁.toks + 1 + 1 + 1 + 1)) else bindAll m₁ [("ahead" : Str), "sign", "word", "undone"] [Value.str ⟨d.ahead.toArray⟩ t1, .str ⟨#[d.sign]⟩ t2, .str ⟨d.word.toArray⟩ t3, .int (d.und : Int) t4] z) s₃ := by
      rw [turnedP_take hd]
      refine Classical.byContradiction fun hNo => ?_
      obtain ⟨kvs, hD, hal⟩ := J₁.dict
      refine hNo ?_
      clear hNo
      exact ⟨J₁.told, ⟨_, rfl⟩, J₁.letters, J₁.left, kvs, hD.at (M₃.at (by simpa using hDL)), hal⟩
    refine wpAny_execs_nil ⟨_, R₁, Grow.refl _ _, F₃, ⟨rfl, J₃, kb.trans (KB.mono M₃.kb (by simp))⟩, M₃.kb⟩
  · obtain ⟨rfl, J₁, kb⟩ := q
    rw [List.take_of_length_le (by rw [Array.length_toList] at hlen; omega)] at J₁
    refine h m₁ s₁ (F₂.drop fun y hy => List.mem_cons_of_mem _ hy) J₁ fun b o hb e => kb b o ?_ e
    simp only [List.mem_cons, List.not_mem_nil, or_false, not_or] at hb ⊢
    exact ⟨hb, fun q => (by rw [q, hsI] at e; cases e)⟩
end
end Mine
end
section
open PySem PySem.W PySem.Calls PyProof.Rows
set_option maxRecDepth 100000
set_option linter.unusedVariables false
set_option linter.unusedSimpArgs false
namespace Mine

section
variable {prog : Program} {w : World} {A : Around} {s s₀ : Shared} {R R₀ : Heap} {X : List Addr} {L D a : Addr} {cd : Value} {m : Str → Option Value} {mg mb : Str → Option Value} {lv : Value} {left : Bool} {tu : Int} {acc : Kv}

/-- row: count for .. if count <op> 0 : the plain parts -/
theorem plainFacts {env : Env} {scope : Scope} {cl : List (Str × Addr)} {ifs : List Expr} {p1 p2 : Pos} {rows : Kv} {pz : Str × Int → Bool}
    (ht : ∀ C p s₁ R₁ XX mc tk tv, p ∈ rows → Sub R R₁ → Fm s₀ R₁ XX C mc s₁ → mc "row" = some (.str p.1 tk) → mc "count" = some (.int p.2 tv) →
      wpAny (model prog w) A (tests ifs (compEnvC scope cl C env)) (fun ok s' => ok = pz p ∧ ∃ t, s' = { s₁ with toks := t }) NoE s₁)
    (h1 : ∀ C, (compEnvC scope cl C env).kindOf "row" = some .local) (h2 : ∀ C, (compEnvC scope cl C env).kindOf "count" = some .local) (hk : scope.kind = .function) :
    CompFacts prog w A s₀ R X "row" "count" env scope cl ifs (.Name "row" p1) (.Name "count" p2) rows s pz (fun k => k) (fun p => p.2) :=
  ⟨fun C p s₁ R₁ XX mc tk tv hp hS F mk mv _ => ht C p s₁ R₁ XX mc tk tv hp hS F mk mv,
   fun C p s₁ R₁ XX mc tk tv hp hz hS F mk mv _ => nmL F mk ⟨⟨tk, rfl⟩, s₁.toks, rfl⟩ (h1 C) (by simp [compEnvC, relabel, hk]) rfl,
   fun C p s₁ R₁ XX mc tk tv hp hz hS F mk mv _ => nmL F mv ⟨⟨tv, rfl⟩, s₁.toks, rfl⟩ (h2 C) (by simp [compEnvC, relabel, hk]) rfl⟩

theorem testNe {cenv : Env} {R₁ : Heap} {XX : List Addr} {C : Addr} {mc : Str → Option Value} {s₁ : Shared} {p : Str × Int} {tv : Tok} {p1 p2 p3 : Pos} {k : Nat} (F : Fm s₀ R₁ XX C mc s₁) (mv : mc "count" = some (.int p.2 tv))
    (hl : cenv.kindOf "count" = some .local) (hk : cenv.scope.kind = .function) (hL : cenv.locals = C) :
    wpAny (model prog w) A (tests [.Compare (.Name "count" p1) [.NotEq] [.Constant (.int 0) k p2] p3] cenv) (fun ok s' => ok = decide (p.2 ≠ 0) ∧ ∃ t, s' = { s₁ with toks := t }) NoE s₁ := by
  refine wpAny_tests_one (wpAny_isTrue_Compare1 (nmL F mv (wpAny_Constant_int (PySem.P.ne_int (wpAny_truthy_bool ⟨?_, _, rfl⟩))) hl hk hL))
  by_cases h : p.2 = 0 <;> simp [h]

set_option maxHeartbeats 1000000 in
theorem told_body (G : GE prog w mg mb R₀) {A : Around} (A' : AOk A 6) {d0 d1 d2 : Dr} (hds : IsDrs R₀ lv [d0, d1, d2]) (hu : ∀ d ∈ [d0, d1, d2], d.und ≤ 1 ∧ d.word.length ≤ 4)
    (F : Fm s₀ R₀ [] L (fun x => [(("letters" : Str), lv), ("left", .bool left)].reverse.lookup x) s) :
    wpAny (model prog w) A (execs (fn 20).body (e20 L a cd)) (fun f s' => Ret s₀ R₀ (fun R' v => ∃ d, v = .ref d ∧ IsRows prog w R' d (toldP left d0 d1 d2)) (retV f) s') NoE s := by
  refine wpAny_execs_cons ?_
  refine wpAny_Assign_Name (dictOne fun h' tk k hz hD => ?_)
  have F₁ := (F.keep (h' := h') (tk := tk) k).priv (F.none_of (get_size_none _)).1 (F.none_of (get_size_none _)).2
  have lo : (s.heap.objs.size == sysModules) = false := lo_of_ns (G.g.keeps F.has)
  have hLD : L ≠ s.heap.objs.size := Nat.ne_of_lt F.lt
  generalize s.heap.objs.size = D at F₁ hD lo hLD ⊢
  refine stL F₁ fun s₂ F₂ M₂ => ?_
  refine wpAny_execs_cons (wpAny_Assign_Name (wpAny_Constant_int (stL F₂.tok fun s₃ F₃ M₃ => ?_)))
  have hD₃ : ∃ kvs, s₃.heap.DictOf (strKind prog w) D kvs ∧ All2 rowOk kvs [(("" : Str), 1)] := by
    refine Classical.byContradiction fun hNo => ?_
    obtain ⟨kvs, h1, h2⟩ := hD
    refine hNo ?_
    clear hNo
    exact ⟨kvs, (h1.at (M₂.at (by simpa using Ne.symm hLD))).at (M₃.kb D · (by simpa using Ne.symm hLD)), h2⟩
  have J : ToJ prog w D lv left 1 [(("" : Str), 1)] (fun y => if y = "turned" then some (.int 1 s₂.toks) else if y = "told" then some (.ref D) else [(("letters" : Str), lv), ("left", .bool left)].reverse.lookup y) s₃ := ⟨rfl, ⟨_, rfl⟩, rfl, rfl, hD₃⟩
  have hX₃ : ∀ x ∈ [D], (s₃.heap.get? x).isSome = true := fun x hx => by obtain rfl := List.mem_singleton.mp hx; exact J.live
  refine wpAny_execs_cons ?_
  refine turnLoop A'.hh F₃ hX₃ (by simp) (by simpa using hLD) J hds (fun d hd => (hu d hd).1) fun m₄ s₄ F₄ J₄ _ => ?_
  have hX₄ : ∀ x ∈ [D], (s₄.heap.get? x).isSome = true := fun x hx => by obtain rfl := List.mem_singleton.mp hx; exact J₄.live
  refine wpAny_execs_cons ?_
  refine xLoop A'.hh lo rfl rfl rfl (hu d0 (by simp)).2 (hu d1 (by simp)).2 (hu d2 (by simp)).2 F₄ hX₄ (by simp) (by simpa using hLD) J₄ (by simp) hds fun R₅ m₅ s₅ g₅ F₅ J₅ _ => ?_
  refine Classical.byContradiction fun hNo => ?_
  obtain ⟨R₆, g₆, F₆, hr₆⟩ := F₅.adoptRows (X := []) (prog := prog) (w := w) (X' := []) (fun x hx => hx) (by simpa using Ne.symm hLD) lo J₅.dict
  refine hNo ?_
  clear hNo
  have GG := G.keeps (g₅.sub.trans g₆.sub)
  have hb : (d0.word.foldl (toldX left (turnedP [d0, d1, d2]) d1.word d2.word) [(("" : Str), 1)]).length ≤ 1000 := by
    have h1 := foldl_len (toldX_len left (turnedP [d0, d1, d2]) d1.word d2.word) d0.word [(("" : Str), 1)]
    have hm : d1.word.length * (d2.word.length * 4) ≤ 4 * (4 * 4) := Nat.mul_le_mul (hu d1 (by simp)).2 (Nat.mul_le_mul_right _ (hu d2 (by simp)).2)
    have hm' : d0.word.length * (d1.word.length * (d2.word.length * 4)) ≤ 4 * (4 * (4 * 4)) := Nat.mul_le_mul (hu d0 (by simp)).2 hm
    simp only [List.length_singleton] at h1; omega
  refine wpAny_execs_cons ?_
  refine wpAny_Return_some ?_
  refine evalItems (cl := []) (L := L) (pz := fun p => decide (p.2 ≠ 0)) (fk := fun k => k) (fv := fun p => p.2) rfl (by decide) rfl (by decide) A'.hh GG F₆ (by simp) (by simp) hr₆ hb rfl rfl (fun Q' q => nmL F₆ (by exact J₅.told) q) (fun _ => rfl) (fun _ => rfl) (by decide)
    (plainFacts (fun C p s₁ R₁ XX mc tk tv hp hS F mk mv => testNe F mv rfl rfl rfl) (fun _ => rfl) (fun _ => rfl) rfl) (fun R₇ B s₇ g₇ F₇ hr₇ _ _ => ?_)
  exact F₇.ret R₀ ((g₅.trans g₆ (Sub.refl _)).trans g₇ (Sub.refl _)) ⟨B, rfl, hr₇⟩

theorem told_spec (G : GE prog w mg mb R) (hA : AOk A 7) (hR : Sub R s.heap) (a : Addr) (ha : mg "_law_told" = some (.ref a)) {d0 d1 d2 : Dr} (hds : IsDrs R lv [d0, d1, d2]) (hu : ∀ d ∈ [d0, d1, d2], d.und ≤ 1 ∧ d.word.length ≤ 4) :
    wpAny (model prog w) A (call (.ref a) [lv, .bool left]) (Ret s R (fun R' v => ∃ d, v = .ref d ∧ IsRows prog w R' d (toldP left d0 d1 d2))) NoE s := by
  refine enterI G 20 (k := 6) (binds := [("letters", lv), ("left", .bool left)]) hA hR rfl ha (by simp) ?_ ?_ (fun L cd s₁ F _ A' => ?_) rfl rfl rfl (by decide +kernel)
  · exact fun _ _ _ => rfl
  · rfl
  · with_reducible exact told_body G A' hds hu F
end
end Mine
end
section
open PySem PySem.W PySem.Calls PyProof.Rows
set_option maxRecDepth 100000
set_option linter.unusedVariables false
set_option linter.unusedSimpArgs false
namespace Mine

section
variable {prog : Program} {w : World} {A : Around} {s s₀ : Shared} {env : Env} {R : Heap} {X : List Addr} {L : Addr} {m : Str → Option Value} {mg mb : Str → Option Value}

/-- what an element of a list comprehension over a list does: the test, then the value -/
noncomputable def ElOk {α β : Type} (prog : Program) (w : World) (A : Around) (s₀ sb : Shared) (R : Heap) (cenv : Addr → Env) (ifs : List Expr) (elt : Expr) (Bind : (Str → Option Value) → α → Prop) (P : Heap → Value → β → Prop) (pz : α → Bool) (fy : α → β) (xs : List α) : Prop :=
  ∀ C x s₁ R₁ XX mc, x ∈ xs → Grow R R₁ s₀.heap → Fm s₀ R₁ XX C mc s₁ → (∀ y ∈ XX, (s₁.heap.get? y).isSome = true) → C ∉ XX → Sub sb.heap s₁.heap → Bind mc x →
    wpAny (model prog w) A (tests ifs (cenv C)) (fun ok s₂ => ok = pz x ∧ (∃ tk, s₂ = { s₁ with toks := tk }) ∧ (ok = true → wpAny (model prog w) A (eval elt (cenv C)) (fun v s₃ => ∃ R₂, Grow R₁ R₂ s₀.heap ∧ Fm s₀ R₂ XX C mc s₃ ∧ Sub s₁.heap s₃.heap ∧ P R₂ v (fy x)) NoE s₂)) NoE s₁

set_option maxHeartbeats 1000000 in
/-- [elt for x in l if ..], l a list of the reference -/
theorem listComp {α β : Type} {x : Str} {px : Pos} {ifs : List Expr} {elt : Expr} {scope : Scope} {cl : List (Str × Addr)} {l : Addr} {vs : Array Value} {xs : List α} {PI : Heap → Value → α → Prop} {P : Heap → Value → β → Prop} {pz : α → Bool} {fy : α → β} {Done : Addr → Addr → Shared → Prop}
    (hh : A.handled = none) (F : Fm s₀ R X L m s) (hX : ∀ y ∈ X, (s.heap.get? y).isSome = true) (hLX : L ∉ X) (hl : R.PlainList l vs) (hall : All2 (fun v a => PI R v a) vs.toList xs) (hn : xs.length ≤ 1000)
    (hP : ∀ R R' v b, Sub R R' → P R v b → P R' v b) (hkx : ∀ C, (compEnvC scope cl C env).kindOf x = some .local) (hkind : scope.kind = .function)
    (EO : ElOk prog w A s₀ s R (fun C => compEnvC scope cl C env) ifs elt (fun mc a => ∃ v, mc x = some v ∧ PI R v a) P pz fy xs)
    (hdone : ∀ B C mc R' X' s', Grow R R' s₀.heap → Fm s₀ R' (B :: L :: X') C mc s' → (∀ x ∈ X, x ∈ X') → L ∉ X' → L ≠ C → L ≠ B → B ≠ C → B ∉ X' → s'.heap.Ns L m → IsMaking P R' s'.heap B ((xs.filter pz).map fy) → Sub s.heap s'.heap → s.heap.get? C = none → Done B C s') :
    wpAny (model prog w) A (pyIter (.ref l)) (fun it s₂ => ∀ D C h₁, Begun D C s₂ h₁ → h₁.PlainList D #[] →
      Loops prog w A (.Name x px) ifs it (compEnvC scope cl C env) (bodyL prog w A elt (.ref D) (compEnvC scope cl C env)) (Done D C) { s₂ with heap := h₁ }) NoE s := by
  have hlen := hall.length
  refine wpAny_pyIter_list (hl.at fun o e => F.has _ o e).isList ?_
  have F₁ := F.new (tk := s.toks) { cls := .type "list_iterator", data := .fields #[.ref l, .int 0 0] }
  have hIt : (s.heap.push { cls := .type "list_iterator", data := .fields #[.ref l, .int 0 0] }).IsListIter s.heap.objs.size l 0 := ⟨_, Heap.get?_push_size _ rfl, rfl, rfl⟩
  have K₁ : Sub s.heap (s.heap.push { cls := .type "list_iterator", data := .fields #[.ref l, .int 0 0] }) := sub_push _ _
  have hsI := get_size_none s.heap
  have hLI : L ≠ s.heap.objs.size := Nat.ne_of_lt F.lt
  generalize s.heap.push { cls := .type "list_iterator", data := .fields #[.ref l, .int 0 0] } = H1 at F₁ hIt K₁ ⊢
  generalize s.heap.objs.size = I at F₁ hIt hsI hLI ⊢
  intro B C h₁ Bg hB
  have Fc := F₁.into Bg
  have live₁ : ∀ y, (H1.get? y).isSome = true → y ≠ C ∧ y ≠ B := fun y hy => by
    obtain ⟨o, ho⟩ := Option.isSome_iff_exists.mp hy
    exact ⟨(by rintro rfl; rw [show H1.get? y = none from Bg.hC] at ho; cases ho), (by rintro rfl; rw [show H1.get? y = none from Bg.hD] at ho; cases ho)⟩
  have hLC := live₁ L (ns_live F₁.ns)
  have hIC := live₁ I (by obtain ⟨o, ho, _⟩ := hIt; rw [ho]; rfl)
  have hXC : ∀ y ∈ X, y ≠ C ∧ y ≠ B := fun y hy => live₁ y (by obtain ⟨o, ho⟩ := Option.isSome_iff_exists.mp (hX y hy); rw [K₁ y o ho]; rfl)
  have noS : ∀ y, H1.get? y = none → s.heap.get? y = none := fun y hy => by
    cases e : s.heap.get? y with
    | none => rfl
    | some o => rw [K₁ y o e] at hy; cases hy
  have hsC := noS C Bg.hC
  have hsB := noS B Bg.hD
  obtain ⟨nl, hol⟩ := id hl
  have hlI : l ≠ I := F₁.ne hol (by simp)
  have hlC : l ≠ C := Fc.ne hol (by simp)
  have hlB : l ≠ B := Fc.ne hol (by simp)
  have hIX : I ∉ X := fun hm => by have := hX I hm; rw [hsI] at this; cases this
  have hXX : C ∉ B :: L :: I :: X := by
    simp only [List.mem_cons, not_or]; exact ⟨Ne.symm Bg.ne, Ne.symm hLC.1, Ne.symm hIC.1, fun h => (hXC C h).1 rfl⟩
  have hBX : B ∉ I :: X := by
    simp only [List.mem_cons, not_or]; exact ⟨Ne.symm hIC.2, fun h => (hXC B h).2 rfl⟩
  refine turnsW (x := x) monoL (Walks.list hh I l hlI vs) Fc ⟨let ⟨o, ho, r⟩ := hIt; ⟨o, Bg.sub _ _ ho, r⟩, (hl.at fun o e => Fc.has _ o e).isList⟩ (by simp) hXX (by simp [Ne.symm hIC.1, Ne.symm hlC]) (hkx C) (by simp [compEnvC, relabel, hkind]) rfl [B] (by simp [Ne.symm hIC.2, Ne.symm hlB])
    (fun i R' s' => IsMaking P R' s'.heap B (((xs.take i).filter pz).map fy) ∧ s'.heap.Ns L m ∧ Sub s.heap s'.heap) ⟨⟨[], hB, trivial⟩, F₁.ns.keeps Bg.sub, K₁.trans Bg.sub⟩
    (fun i R' s s' q M => ⟨q.1.at (fun _ _ y => y) (M.at (by simp [Bg.ne, Ne.symm hIC.2])), q.2.1.at' (M.at (by simp [hLI, hLC.1])), fun b o e => M.kb b o (by
      simp only [List.mem_cons, List.not_mem_nil, or_false, not_or]; exact ⟨fun q => (by rw [q, hsC] at e; cases e), fun q => (by rw [q, hsI] at e; cases e)⟩) (q.2.2 b o e)⟩)
    (fun i v m₁ R₁ s₁ hi hv G₁ q hst F₂ => ?_) fun m₁ R₁ s₁ G₁ F₂ q => ?_
  · obtain ⟨mk, hns, hsub⟩ := q
    obtain ⟨a, ha, hPI⟩ := hall.get (i := i) (a := v) (by simpa using hv)
    have hlive : ∀ y ∈ B :: L :: I :: X, (s₁.heap.get? y).isSome = true := fun y hy => by
      simp only [List.mem_cons] at hy
      rcases hy with rfl | rfl | rfl | hy
      · exact making_live mk
      · exact ns_live hns
      · obtain ⟨o, ho, _⟩ := hst.1; rw [ho]; rfl
      · obtain ⟨o, ho⟩ := Option.isSome_iff_exists.mp (hX y hy); rw [hsub y o ho]; rfl
    have htk := take_succ_of ha
    refine wpAny_mono (EO C a s₁ R₁ _ _ (List.mem_of_getElem? ha) G₁ F₂ hlive hXX hsub ⟨v, if_pos rfl, hPI⟩) (fun ok s₂ q => ?_) fun _ _ q => q
    obtain ⟨rfl, ⟨tk, rfl⟩, he⟩ := q
    cases hz : pz a with
    | false =>
      rw [if_neg (by simp)]
      refine ⟨_, R₁, Grow.refl _ _, F₂.tok, ⟨?_, hns, hsub⟩, KB.refl _ _⟩
      rw [htk, List.filter_append]; simpa [hz] using mk
    | true =>
      rw [if_pos rfl]
      refine wpAny_mono (he hz) (fun y s₃ q => ?_) fun _ _ q => q
      obtain ⟨R₂, g₂, F₃, k₃, hy⟩ := q
      have hlm : (((xs.take i).filter pz).map fy).length ≤ 1000 := by
        rw [List.length_map]
        have h1 := List.length_filter_le pz (xs.take i)
        rw [List.length_take] at h1; omega
      refine IsMaking.app (P := P) (R := R₂) (l := ((xs.take i).filter pz).map fy) (a := fy a) (mk.at (fun _ _ y => hP _ _ _ _ g₂.sub y) fun o e => k₃ B o e) hy (by omega) fun h' hm hs' => ?_
      refine ⟨_, R₂, g₂, F₃.other (KB.of_same hs' (by simp)) hXX, ⟨?_, (hns.keeps k₃).at' fun o e => hs'.extBut L o hLC.2 e, fun b o e => hs'.extBut b o (fun q => by rw [q, hsB] at e; cases e) (k₃ b o (hsub b o e))⟩, (KB.of_sub k₃).trans (KB.of_same hs' (by simp))⟩
      rw [htk, List.filter_append]; simpa [hz] using hm
  · obtain ⟨mk, hns, hsub⟩ := q
    rw [List.take_of_length_le (by rw [Array.length_toList] at hlen; omega)] at mk
    exact hdone B C m₁ R₁ (I :: X) s₁ G₁ F₂ (fun y hy => List.mem_cons_of_mem _ hy) (by simp [hLI, hLX]) hLC.1 hLC.2 Bg.ne hBX hns mk hsub hsC
end
end Mine
end
section
open PySem PySem.W PySem.Calls PyProof.Rows
set_option maxRecDepth 100000
set_option linter.unusedVariables false
set_option linter.unusedSimpArgs false
namespace Mine

section
variable {prog : Program} {w : World} {A : Around} {s s₀ : Shared} {env : Env} {R : Heap} {X : List Addr} {L : Addr} {m : Str → Option Value} {mg mb : Str → Option Value}

set_option maxHeartbeats 1000000 in
/-- [elt for a, b in l if ..], l a list of tuples of the reference -/
theorem listCompT {α β : Type} {ns : List (Str × Pos)} {kt : Nat} {tp : Pos} {V : α → Array Value → Prop} {Bind : (Str → Option Value) → α → Prop} {ifs : List Expr} {elt : Expr} {scope : Scope} {cl : List (Str × Addr)} {l : Addr} {vs : Array Value} {xs : List α} {P : Heap → Value → β → Prop} {pz : α → Bool} {fy : α → β} {Done : Addr → Addr → Shared → Prop}
    (hh : A.handled = none) (F : Fm s₀ R X L m s) (hX : ∀ y ∈ X, (s.heap.get? y).isSome = true) (hLX : L ∉ X) (hl : R.PlainList l vs) (hall : All2 (fun v a => ∃ T arr, v = .ref T ∧ R.IsTuple T arr ∧ V a arr) vs.toList xs) (hVl : ∀ a arr, V a arr → ns.length = arr.size) (hbind : ∀ m₁ a arr, V a arr → Bind (bindAll m₁ (ns.map (·.1)) arr.toList) a) (hn : xs.length ≤ 1000)
    (hP : ∀ R R' v b, Sub R R' → P R v b → P R' v b) (hkx : ∀ C, ∀ x ∈ ns, (compEnvC scope cl C env).kindOf x.1 = some .local) (hkind : scope.kind = .function)
    (EO : ElOk prog w A s₀ s R (fun C => compEnvC scope cl C env) ifs elt Bind P pz fy xs)
    (hdone : ∀ B C mc R' X' s', Grow R R' s₀.heap → Fm s₀ R' (B :: L :: X') C mc s' → (∀ x ∈ X, x ∈ X') → L ∉ X' → L ≠ C → L ≠ B → B ≠ C → B ∉ X' → s'.heap.Ns L m → IsMaking P R' s'.heap B ((xs.filter pz).map fy) → Sub s.heap s'.heap → s.heap.get? C = none → Done B C s') :
    wpAny (model prog w) A (pyIter (.ref l)) (fun it s₂ => ∀ D C h₁, Begun D C s₂ h₁ → h₁.PlainList D #[] →
      Loops prog w A (.Tuple (ns.map fun x => Expr.Name x.1 x.2) kt tp) ifs it (compEnvC scope cl C env) (bodyL prog w A elt (.ref D) (compEnvC scope cl C env)) (Done D C) { s₂ with heap := h₁ }) NoE s := by
  have hlen := hall.length
  refine wpAny_pyIter_list (hl.at fun o e => F.has _ o e).isList ?_
  have F₁ := F.new (tk := s.toks) { cls := .type "list_iterator", data := .fields #[.ref l, .int 0 0] }
  have hIt : (s.heap.push { cls := .type "list_iterator", data := .fields #[.ref l, .int 0 0] }).IsListIter s.heap.objs.size l 0 := ⟨_, Heap.get?_push_size _ rfl, rfl, rfl⟩
  have K₁ : Sub s.heap (s.heap.push { cls := .type "list_iterator", data := .fields #[.ref l, .int 0 0] }) := sub_push _ _
  have hsI := get_size_none s.heap
  have hLI : L ≠ s.heap.objs.size := Nat.ne_of_lt F.lt
  generalize s.heap.push { cls := .type "list_iterator", data := .fields #[.ref l, .int 0 0] } = H1 at F₁ hIt K₁ ⊢
  generalize s.heap.objs.size = I at F₁ hIt hsI hLI ⊢
  intro B C h₁ Bg hB
  have Fc := F₁.into Bg
  have live₁ : ∀ y, (H1.get? y).isSome = true → y ≠ C ∧ y ≠ B := fun y hy => by
    obtain ⟨o, ho⟩ := Option.isSome_iff_exists.mp hy
    exact ⟨(by rintro rfl; rw [show H1.get? y = none from Bg.hC] at ho; cases ho), (by rintro rfl; rw [show H1.get? y = none from Bg.hD] at ho; cases ho)⟩
  have hLC := live₁ L (ns_live F₁.ns)
  have hIC := live₁ I (by obtain ⟨o, ho, _⟩ := hIt; rw [ho]; rfl)
  have hXC : ∀ y ∈ X, y ≠ C ∧ y ≠ B := fun y hy => live₁ y (by obtain ⟨o, ho⟩ := Option.isSome_iff_exists.mp (hX y hy); rw [K₁ y o ho]; rfl)
  have noS : ∀ y, H1.get? y = none → s.heap.get? y = none := fun y hy => by
    cases e : s.heap.get? y with
    | none => rfl
    | some o => rw [K₁ y o e] at hy; cases hy
  have hsC := noS C Bg.hC
  have hsB := noS B Bg.hD
  obtain ⟨nl, hol⟩ := id hl
  have hlI : l ≠ I := F₁.ne hol (by simp)
  have hIR := (F₁.out I (by simp)).1
  have hCR := (Fc.out C (by simp)).1
  have hBR := (Fc.out B (by simp)).1
  have hlC : l ≠ C := Fc.ne hol (by simp)
  have hlB : l ≠ B := Fc.ne hol (by simp)
  have hIX : I ∉ X := fun hm => by have := hX I hm; rw [hsI] at this; cases this
  have hXX : C ∉ B :: L :: I :: X := by
    simp only [List.mem_cons, not_or]; exact ⟨Ne.symm Bg.ne, Ne.symm hLC.1, Ne.symm hIC.1, fun h => (hXC C h).1 rfl⟩
  have hBX : B ∉ I :: X := by
    simp only [List.mem_cons, not_or]; exact ⟨Ne.symm hIC.2, fun h => (hXC B h).2 rfl⟩
  have W := walksR (prog := prog) (w := w) (A := A) hh I l hl.isList hIR (Vals := fun i arr => ∃ a, xs[i]? = some a ∧ V a arr) fun i hi => by
    refine Classical.byContradiction fun hNo => ?_
    obtain ⟨a, ha, T, arr, e, hT, hV⟩ := hall.get (List.getElem?_eq_getElem (by simpa using hi))
    refine hNo ?_
    clear hNo
    exact ⟨T, arr, by simpa using (List.getElem?_eq_getElem (by simpa using hi)).trans (congrArg some e), hT, a, ha, hV⟩
  refine turnsU (k := kt) (pos := tp) (xs := ns) monoL W hh Fc ⟨let ⟨o, ho, r⟩ := hIt; ⟨o, Bg.sub _ _ ho, r⟩, Fc.has⟩ (by simp) hXX (by simp only [List.mem_cons, not_or]; exact ⟨Ne.symm hIC.1, notin_dom hCR⟩) (fun i arr q => let ⟨a, _, hV⟩ := q; hVl a arr hV) (hkx C) (by simp [compEnvC, relabel, hkind]) rfl [B] (by
      intro y hy
      obtain rfl := List.mem_singleton.mp hy
      simp only [List.mem_cons, not_or]; exact ⟨Ne.symm hIC.2, notin_dom hBR⟩)
    (fun i R' s' => IsMaking P R' s'.heap B (((xs.take i).filter pz).map fy) ∧ s'.heap.Ns L m ∧ Sub s.heap s'.heap) ⟨⟨[], hB, trivial⟩, F₁.ns.keeps Bg.sub, K₁.trans Bg.sub⟩
    (fun i R' s s' q M => ⟨q.1.at (fun _ _ y => y) (M.at (by simp [Bg.ne, Ne.symm hIC.2])), q.2.1.at' (M.at (by simp [hLI, hLC.1])), fun b o e => M.kb b o (by
      simp only [List.mem_cons, List.not_mem_nil, or_false, not_or]; exact ⟨fun q => (by rw [q, hsC] at e; cases e), fun q => (by rw [q, hsI] at e; cases e)⟩) (q.2.2 b o e)⟩)
    (fun i v m₁ R₁ s₁ hi hv G₁ q hst F₂ => ?_) fun m₁ R₁ s₁ G₁ F₂ q => ?_
  · obtain ⟨mk, hns, hsub⟩ := q
    refine Classical.byContradiction fun hNo => ?_
    obtain ⟨a, ha, hV⟩ := hv
    refine hNo ?_
    clear hNo
    have hlive : ∀ y ∈ B :: L :: I :: X, (s₁.heap.get? y).isSome = true := fun y hy => by
      simp only [List.mem_cons] at hy
      rcases hy with rfl | rfl | rfl | hy
      · exact making_live mk
      · exact ns_live hns
      · obtain ⟨o, ho, _⟩ := hst.1; rw [ho]; rfl
      · obtain ⟨o, ho⟩ := Option.isSome_iff_exists.mp (hX y hy); rw [hsub y o ho]; rfl
    have htk := take_succ_of ha
    refine wpAny_mono (EO C a s₁ R₁ _ _ (List.mem_of_getElem? ha) G₁ F₂ hlive hXX hsub (hbind _ a v hV)) (fun ok s₂ q => ?_) fun _ _ q => q
    refine Classical.byContradiction fun hNo => ?_
    obtain ⟨rfl, ⟨tk, rfl⟩, he⟩ := q
    refine hNo ?_
    clear hNo
    cases hz : pz a with
    | false =>
      rw [if_neg (by simp)]
      refine ⟨_, R₁, Grow.refl _ _, F₂.tok, ⟨?_, hns, hsub⟩, KB.refl _ _⟩
      rw [htk, List.filter_append]; simpa [hz] using mk
    | true =>
      rw [if_pos rfl]
      refine wpAny_mono (he hz) (fun y s₃ q => ?_) fun _ _ q => q
      refine Classical.byContradiction fun hNo => ?_
      obtain ⟨R₂, g₂, F₃, k₃, hy⟩ := q
      refine hNo ?_
      clear hNo
      have hlm : (((xs.take i).filter pz).map fy).length ≤ 1000 := by
        rw [List.length_map]
        have h1 := List.length_filter_le pz (xs.take i)
        rw [List.length_take] at h1; omega
      refine IsMaking.app (P := P) (R := R₂) (l := ((xs.take i).filter pz).map fy) (a := fy a) (mk.at (fun _ _ y => hP _ _ _ _ g₂.sub y) fun o e => k₃ B o e) hy (by omega) fun h' hm hs' => ?_
      refine ⟨_, R₂, g₂, F₃.other (KB.of_same hs' (by simp)) hXX, ⟨?_, (hns.keeps k₃).at' fun o e => hs'.extBut L o hLC.2 e, fun b o e => hs'.extBut b o (fun q => by rw [q, hsB] at e; cases e) (k₃ b o (hsub b o e))⟩, (KB.of_sub k₃).trans (KB.of_same hs' (by simp))⟩
      rw [htk, List.filter_append]; simpa [hz] using hm
  · obtain ⟨mk, hns, hsub⟩ := q
    rw [List.take_of_length_le (by rw [Array.length_toList] at hlen; omega)] at mk
    exact hdone B C m₁ R₁ (I :: X) s₁ G₁ F₂ (fun y hy => List.mem_cons_of_mem _ hy) (by simp [hLI, hLX]) hLC.1 hLC.2 Bg.ne hBX hns mk hsub hsC
end
end Mine
end
section
open PySem PySem.W PySem.Calls PyProof.Rows
set_option maxRecDepth 100000
set_option linter.unusedVariables false
set_option linter.unusedSimpArgs false
namespace Mine

section
variable {prog : Program} {w : World} {A : Around} {s s₀ : Shared} {env : Env} {R : Heap} {X : List Addr} {L : Addr} {m : Str → Option Value} {mg mb : Str → Option Value}

set_option maxHeartbeats 1000000 in
/-- [unit for spot, unit in _iter_escaped_chars(e)], behind the call -/
theorem genComp (hA : AOk A 9) (G : GE prog w mg mb R) {x : Str} {tx : Tok} {b Cg g : Addr} {sc : Shared} {x1 x2 : Str} {p1 p2 p3 tpos : Pos} {kk : Nat} {scope : Scope} {cl : List (Str × Addr)} {Done : Addr → Addr → Shared → Prop}
    (F₀ : Fm s₀ R X L m sc) (hX : ∀ y ∈ X, (sc.heap.get? y).isSome = true) (hLX : L ∉ X) (N : GenNew prog w x tx b Cg g sc s) (hn : x.cps.toList.length ≤ 900)
    (hl1 : ∀ C, (compEnvC scope cl C env).kindOf x1 = some .local) (hl2 : ∀ C, (compEnvC scope cl C env).kindOf x2 = some .local) (hkind : scope.kind = .function) (hd : (x2 == ("__debug__" : Str)) = false)
    (hdone : ∀ B C mc s', Fm s₀ R (B :: L :: X) C mc s' → L ≠ C → L ≠ B → B ≠ C → B ∉ X → s'.heap.Ns L m → IsMaking (fun _ v c => strV c v) R s'.heap B ((escItems false 0 x.cps.toList).map (·.2)) → (∀ y ∈ X, ∀ o, sc.heap.get? y = some o → s'.heap.get? y = some o) → Done B C s') :
    wpAny (model prog w) A (pyIter (.ref b)) (fun it s₂ => ∀ D C h₁, Begun D C s₂ h₁ → h₁.PlainList D #[] →
      Loops prog w A (.Tuple [.Name x1 p1, .Name x2 p2] kk tpos) [] it (compEnvC scope cl C env) (bodyL prog w A (.Name x2 p3) (.ref D) (compEnvC scope cl C env)) (Done D C) { s₂ with heap := h₁ }) NoE s := by
  refine wpAny_pyIter_gen N.isg ?_
  intro B C h₁ Bg hB
  have F₁ : Fm s₀ R X L m s := F₀.call N.step (Grow.refl _ _) (F₀.has.trans N.step.sub) hX
  have Fc := F₁.into Bg
  have hRC : R.get? Cg = none := by
    cases e : R.get? Cg with
    | none => rfl
    | some o => have := F₀.has Cg o e; rw [N.fresh.2.1] at this; cases this
  have hCgs : (s.heap.get? Cg).isSome = true := ns_live N.ns
  have hbs : (s.heap.get? b).isSome = true := by obtain ⟨o, _, _, ho, _⟩ := N.isg; rw [ho]; rfl
  have live₁ : ∀ y, (s.heap.get? y).isSome = true → y ≠ C ∧ y ≠ B := fun y hy => by
    obtain ⟨o, ho⟩ := Option.isSome_iff_exists.mp hy
    exact ⟨(by rintro rfl; rw [Bg.hC] at ho; cases ho), (by rintro rfl; rw [Bg.hD] at ho; cases ho)⟩
  have hCgC := live₁ Cg hCgs
  have hbC := live₁ b hbs
  have hLC := live₁ L (ns_live F₁.ns)
  have hXs : ∀ y ∈ X, (s.heap.get? y).isSome = true := fun y hy => by obtain ⟨o, ho⟩ := Option.isSome_iff_exists.mp (hX y hy); rw [N.step.sub y o ho]; rfl
  have hXC : ∀ y ∈ X, y ≠ C ∧ y ≠ B := fun y hy => live₁ y (hXs y hy)
  have inH : ∀ c, c ≠ Cg → (h₁.get? c).isSome = true → ((only (fun c => c != Cg) h₁).get? c).isSome = true := fun c hc ho => by
    rw [only_get, if_pos (by simpa using hc)]; exact ho
  have sc₁ : ∀ c, (sc.heap.get? c).isSome = true → c ≠ Cg ∧ (h₁.get? c).isSome = true := fun c hc => by
    obtain ⟨o, ho⟩ := Option.isSome_iff_exists.mp hc
    exact ⟨(by rintro rfl; rw [N.fresh.2.1] at ho; cases ho), by rw [Bg.sub c o (N.step.sub c o ho)]; rfl⟩
  have hHb := inH b N.fresh.2.2.1 (by obtain ⟨o, ho⟩ := Option.isSome_iff_exists.mp hbs; rw [Bg.sub b o ho]; rfl)
  have hHC := inH C (Ne.symm hCgC.1) (ns_live Bg.ns)
  have hHB := inH B (Ne.symm hCgC.2) (by obtain ⟨n, hb⟩ := hB; rw [hb]; rfl)
  have hHL := inH L (sc₁ L (ns_live F₀.ns)).1 (sc₁ L (ns_live F₀.ns)).2
  have hHX : ∀ y ∈ X, ((only (fun c => c != Cg) h₁).get? y).isSome = true := fun y hy => inH y (sc₁ y (hX y hy)).1 (sc₁ y (hX y hy)).2
  have h0H : ∀ c, (s₀.heap.get? c).isSome = true → ((only (fun c => c != Cg) h₁).get? c).isSome = true := fun c hc => by
    obtain ⟨o, ho⟩ := Option.isSome_iff_exists.mp hc
    have := sc₁ c (by rw [F₀.step.sub c o ho]; rfl)
    exact inH c this.1 this.2
  have hg0 : s₀.gens.size ≤ g := by
    rw [← N.fresh.2.2.2]
    rcases Nat.lt_or_ge sc.gens.size s₀.gens.size with h | h
    · exfalso
      have := F₀.step.gens _ _ (Array.getElem?_eq_getElem h)
      rw [Array.getElem?_eq_none (Nat.le_refl _)] at this; cases this
    · exact h
  have GA : GenAt prog w A b g (only (fun c => c != Cg) h₁) R (escItems false 0 x.cps.toList) 0 { s with heap := h₁ } := N.at (s₂ := { s with heap := h₁ }) G hA hRC Bg.sub rfl
  refine ⟨wpAny_pyIter_gen GA.isg ⟨rfl, rfl⟩, fun q s' => ∃ k mc, q + k = (escItems false 0 x.cps.toList).length ∧ Fm s₀ R (B :: L :: X) C mc s' ∧ GenAt prog w A b g (only (fun c => c != Cg) h₁) R (escItems false 0 x.cps.toList) k s' ∧
      IsMaking (fun _ v c => strV c v) R s'.heap B (((escItems false 0 x.cps.toList).take k).map (·.2)) ∧ s'.heap.Ns L m ∧ (∀ y ∈ X, ∀ o, sc.heap.get? y = some o → s'.heap.get? y = some o), (escItems false 0 x.cps.toList).length,
    ⟨0, _, rfl, Fc, GA, ⟨[], hB, trivial⟩, F₁.ns.keeps Bg.sub, fun y _ o e => Bg.sub y o (N.step.sub y o e)⟩, ?_⟩
  intro q s₂ hJo
  refine Classical.byContradiction fun hNo => ?_
  obtain ⟨k, mc, hq, F₂, GA₂, mk, hns, hkp⟩ := hJo
  refine hNo ?_
  clear hNo
  refine drawG (hA.le (by omega)) G.lim F₂ GA₂ (by omega) hHb hHC hbC.1 h0H hg0 (hl1 C) (hl2 C) (by simp [compEnvC, relabel, hkind]) rfl (fun hk s₃ F₃ keep => ?_) fun p hp t u s₃ F₃ keep GA₃ => ?_
  · subst hk
    rw [List.take_length] at mk
    exact hdone B C mc s₃ F₃ hLC.1 hLC.2 Bg.ne (fun h => (hXC B h).2 rfl) (hns.at' (keep L hHL)) (mk.at (fun _ _ y => y) (keep B hHB)) fun y hy o e => keep y (hHX y hy) o (hkp y hy o e)
  · refine wpAny_tests_nil ?_
    rw [if_pos rfl]
    refine nmL F₃ (by exact if_pos rfl) ?_ (hl2 C) (by simp [compEnvC, relabel, hkind]) rfl hd
    have mk₃ := mk.at (R' := R) (fun _ _ y => y) (keep B Bg.ne hHB)
    have hlen := escItems_len x.cps.toList false 0
    have hk : k < (escItems false 0 x.cps.toList).length := (List.getElem?_eq_some_iff.mp hp).1
    refine IsMaking.app (P := fun _ v c => strV c v) (R := R) (a := p.2) mk₃ ⟨u, rfl⟩ (by rw [List.length_map, List.length_take]; omega) fun h' hm hs' => ?_
    refine ⟨q - 1, by omega, k + 1, _, by omega, F₃.other (KB.of_same hs' (by simp)) (by simp only [List.mem_cons, not_or]; exact ⟨Ne.symm Bg.ne, Ne.symm hLC.1, fun h => (hXC C h).1 rfl⟩), GA₃.move (Y := [B]) (KB.of_same hs' (by simp)) rfl (fun y hy => ?_) (by simpa using hbC.2), ?_, (hns.at' (keep L hLC.1 hHL)).at' fun o e => hs'.extBut L o hLC.2 e,
      fun y hy o e => hs'.extBut y o (hXC y hy).2 (keep y (hXC y hy).1 (hHX y hy) o (hkp y hy o e))⟩
    · obtain rfl := List.mem_singleton.mp hy
      exact ⟨hHB, making_live (P := fun _ v c => strV c v) (R := R) hm⟩
    · rw [take_succ_of hp, List.map_append]; exact hm
end
end Mine
end
section
open PySem PySem.W PySem.Calls PyProof.Rows
set_option maxRecDepth 100000
set_option linter.unusedVariables false
set_option linter.unusedSimpArgs false
namespace Mine

section
variable {prog : Program} {w : World} {A : Around} {s s₀ : Shared} {env : Env} {R R' : Heap} {X X' : List Addr} {L B C : Addr} {m mc : Str → Option Value} {s' : Shared}

/-- a list comprehension's end: it is stored -/
theorem listDoneA {β : Type} {P : Heap → Value → β → Prop} {ys : List β} {y : Str} {py : Pos} {Q : Flow → Shared → Prop} (hP : ∀ R R' v b, Sub R R' → P R v b → P R' v b)
    (G' : Grow R R' s₀.heap) (Fc : Fm s₀ R' (B :: L :: X') C mc s') (hXX : ∀ x ∈ X, x ∈ X') (hLX' : L ∉ X') (hLC : L ≠ C) (hLB : L ≠ B) (hBC : B ≠ C) (hBX' : B ∉ X') (hns : s'.heap.Ns L m) (mk : IsMaking P R' s'.heap B ys) (hsub : Sub s.heap s'.heap) (hsC : s.heap.get? C = none)
    (hl : env.kindOf y = some .local) (hk : env.scope.kind = .function) (hL : env.locals = L)
    (h : ∀ R₂ s₂ vs, Grow R R₂ s₀.heap → Fm s₀ R₂ X L (fun z => if z = y then some (.ref B) else m z) s₂ → R₂.PlainList B vs → All2 (fun v b => P R₂ v b) vs.toList ys → KB [L] s.heap s₂.heap → Q .next s₂) :
    doneA prog w A env y py Q B C s' := by
  refine Fc.storeComp hns hLC hLB hLX' hl hk hL fun s₂ F₂ keep gens => ?_
  obtain ⟨R₃, G₃, F₃, vs, hp, al⟩ := F₂.adoptMade (X := X') (by simp only [List.mem_cons, not_or]; exact ⟨Ne.symm hLB, hBX'⟩) (mk.at (R' := R') (fun _ _ y => y) (keep B (Ne.symm hLB) hBC)) fun R' v b k y => hP _ _ _ _ k y
  exact h R₃ s₂ vs (G'.trans G₃ (Sub.refl _)) (F₃.drop hXX) hp al fun b o hb e => keep b (by simpa using hb) (fun q => by rw [q, hsC] at e; cases e) o (hsub b o e)

/-- a list comprehension's end: it is handed on -/
theorem listDoneE {β : Type} {P : Heap → Value → β → Prop} {ys : List β} {Q : Value → Shared → Prop} (hP : ∀ R R' v b, Sub R R' → P R v b → P R' v b)
    (G' : Grow R R' s₀.heap) (Fc : Fm s₀ R' (B :: L :: X') C mc s') (hXX : ∀ x ∈ X, x ∈ X') (hLX' : L ∉ X') (hLC : L ≠ C) (hLB : L ≠ B) (hBC : B ≠ C) (hBX' : B ∉ X') (hns : s'.heap.Ns L m) (mk : IsMaking P R' s'.heap B ys) (hsub : Sub s.heap s'.heap) (hsC : s.heap.get? C = none)
    (h : ∀ R₂ s₂ vs, Grow R R₂ s₀.heap → Fm s₀ R₂ X L m s₂ → R₂.PlainList B vs → All2 (fun v b => P R₂ v b) vs.toList ys → Sub s.heap s₂.heap → Q (.ref B) s₂) :
    doneE Q B C s' := by
  refine ⟨mc, Fc.ns, fun h' k' => ?_⟩
  have F₂ := Fc.leave hns hLC k'
  obtain ⟨R₃, G₃, F₃, vs, hp, al⟩ := F₂.adoptMade (X := X') (by simp only [List.mem_cons, not_or]; exact ⟨Ne.symm hLB, hBX'⟩) (mk.at (R' := R') (fun _ _ y => y) (fun o => k'.extBut B o hBC)) fun R' v b k y => hP _ _ _ _ k y
  exact h R₃ _ vs (G'.trans G₃ (Sub.refl _)) (F₃.drop hXX) hp al fun b o e => k'.extBut b o (fun q => by rw [q, hsC] at e; cases e) (hsub b o e)
end
end Mine
end
section
open PySem PySem.W PySem.Calls PyProof.Rows
set_option maxRecDepth 100000
set_option linter.unusedVariables false
set_option linter.unusedSimpArgs false
namespace Mine

/-! ## law, what it does -/
noncomputable def drawnN (script : List Int) : List Nat := (script.take 5).map fun n => (n.fmod (10 ^ 6)).toNat
noncomputable def numbersP (script : List Int) : List Nat := (drawnN script ++ [54, 38, 23].drop (drawnN script).length).take 3 ++ (drawnN script).drop 3
noncomputable def totalP (script : List Int) : Nat := (numbersP script).sum
noncomputable def familyP (script : List Int) : Nat := totalP script % 4
noncomputable def leftP (script : List Int) : Bool := totalP script / 4 % 2 == 0
noncomputable def lettersP (script : List Int) : List Dr := (numbersP script).map (drawnP (familyP script))
noncomputable def unitP (c : Nat) (u : Int) : List Nat := if u = 1 then [92, c] else [c]
noncomputable def partP (d : Dr) : List Nat := d.ahead ++ unitP d.sign d.und
noncomputable def coreP (left : Bool) (a b c : List Nat) : List Nat := if left then [40, 40] ++ a ++ b ++ [41] ++ c ++ [41] else [40] ++ a ++ [40] ++ b ++ c ++ [41, 41]
noncomputable def wrapP (text : List Nat) (d : Dr) : List Nat := d.ahead ++ unitP d.sign d.und ++ text ++ unitP d.sign (1 - (d.und : Int))
noncomputable def textP (left : Bool) (ds : List Dr) : List Nat :=
  match ds with
  | a :: b :: c :: rest => rest.foldl wrapP (coreP left (partP a) (partP b) (partP c))
  | _ => []
noncomputable def unitsP (text : List Nat) : List (List Nat) := (escItems false 0 (stripPure text)).map (·.2)
noncomputable def weightsP (left : Bool) : List Nat := if left then [4, 4, 2, 2, 2] else [2, 4, 4, 2, 2]
noncomputable def sizeP (left : Bool) (ds : List Dr) : Nat := (((weightsP left).zip ds).map fun p => p.1 * p.2.word.length).sum
noncomputable def ownP (left : Bool) (f : Nat) (ds : List Dr) : Nat := (((weightsP left).zip ds).map fun p => p.1 * (p.2.word.filter (· = f)).length).sum
noncomputable def aboveZero : Kv → Kv := fun l => l.foldl (compStep (fun p => decide (p.2 > 0)) (fun k => k) (fun p => p.2)) []

end Mine
end
section
open PySem PySem.W PySem.Calls PyProof.Rows
set_option maxRecDepth 100000
set_option linter.unusedVariables false
set_option linter.unusedSimpArgs false
namespace Mine


section
variable {prog : Program} {w : World} {A : Around} {s s₀ : Shared} {env : Env} {R : Heap} {X : List Addr} {L : Addr} {m : Str → Option Value} {mg mb : Str → Option Value}

end
end Mine
end
section
open PySem PySem.W PySem.Calls PyProof.Rows
set_option maxRecDepth 100000
set_option linter.unusedVariables false
set_option linter.unusedSimpArgs false
namespace Mine

/-- a list of what the reference means -/
noncomputable def IsLst {α : Type} (P : Heap → Value → α → Prop) (h : Heap) (v : Value) (xs : List α) : Prop := ∃ D vs, v = .ref D ∧ h.PlainList D vs ∧ All2 (fun v a => P h v a) vs.toList xs
noncomputable def MonoP {α : Type} (P : Heap → Value → α → Prop) : Prop := ∀ R R' v a, Sub R R' → P R v a → P R' v a
theorem IsLst.keeps {α : Type} {P : Heap → Value → α → Prop} (hP : MonoP P) {h h' : Heap} {v : Value} {xs : List α} (x : IsLst P h v xs) (k : Sub h h') : IsLst P h' v xs :=
  let ⟨D, vs, e, p, a⟩ := x; ⟨D, vs, e, p.at (fun o => k D o), All2.mono (fun _ _ y => hP _ _ _ _ k y) a⟩
noncomputable def cut {α : Type} (xs : List α) (lo hi : Option Int) : List α := (xs.drop (lo.elim 0 (clipAt xs.length))).take (hi.elim xs.length (clipAt xs.length) - lo.elim 0 (clipAt xs.length))
noncomputable abbrev isI : Heap → Value → Int → Prop := fun _ v n => ∃ t, v = Value.int n t
theorem monoI : MonoP isI := fun _ _ _ _ _ y => y

noncomputable abbrev e21 (L a : Addr) (cd : Value) : Env := envOfC (fn 21).name (fn 21).scope L a cd
noncomputable abbrev upd (m : Str → Option Value) (x : Str) (v : Value) : Str → Option Value := fun y => if y = x then some v else m y

/-- law's frame: its cells are family and initial -/
structure LF (s₀ : Shared) (R : Heap) (L : Addr) (m : Str → Option Value) (s : Shared) (c1 c2 : Option Value) : Prop where
  F : Fm s₀ R [L + 2, L + 1] L m s
  k1 : s.heap.IsCell (L + 1) c1
  k2 : s.heap.IsCell (L + 2) c2

section
variable {prog : Program} {w : World} {A : Around} {s s₀ : Shared} {R R' R₀ : Heap} {L a : Addr} {cd : Value} {m : Str → Option Value} {mg mb : Str → Option Value} {c1 c2 : Option Value}
theorem LF.live (Z : LF s₀ R L m s c1 c2) : ∀ x ∈ [L + 2, L + 1], (s.heap.get? x).isSome = true := fun x hx => by
  simp only [List.mem_cons, List.not_mem_nil, or_false] at hx
  rcases hx with rfl | rfl
  · exact isCell_live Z.k2
  · exact isCell_live Z.k1
theorem LF.keep {h' : Heap} {tk : Nat} (Z : LF s₀ R L m s c1 c2) (k : Sub s.heap h') : LF s₀ R L m { s with heap := h', toks := tk } c1 c2 :=
  ⟨Z.F.keep k, isCell_kb (Y := []) Z.k1 (KB.of_sub k) (by simp), isCell_kb (Y := []) Z.k2 (KB.of_sub k) (by simp)⟩
theorem LF.tok {tk : Nat} (Z : LF s₀ R L m s c1 c2) : LF s₀ R L m { s with toks := tk } c1 c2 := ⟨Z.F.tok, Z.k1, Z.k2⟩
theorem LF.push {tk : Nat} (Z : LF s₀ R L m s c1 c2) (o : Obj) : LF s₀ R L m { s with heap := s.heap.push o, toks := tk } c1 c2 := Z.keep (sub_push _ _)
theorem LF.call {s' : Shared} (Z : LF s₀ R L m s c1 c2) (st : Step s s') (g : Grow R R' s.heap) (hs : Sub R' s'.heap) : LF s₀ R' L m s' c1 c2 :=
  ⟨Z.F.call st g hs Z.live, isCell_kb (Y := []) Z.k1 (KB.of_sub st.sub) (by simp), isCell_kb (Y := []) Z.k2 (KB.of_sub st.sub) (by simp)⟩
theorem LF.kb {m' : Str → Option Value} {s' : Shared} (Z : LF s₀ R L m s c1 c2) (F' : Fm s₀ R' [L + 2, L + 1] L m' s') (k : KB [L] s.heap s'.heap) : LF s₀ R' L m' s' c1 c2 :=
  ⟨F', isCell_kb Z.k1 k (by simp), isCell_kb Z.k2 k (by simp)⟩
theorem LF.notin {B : Addr} (Z : LF s₀ R L m s c1 c2) (h : s.heap.get? B = none) : B ∉ L :: [L + 2, L + 1] := fun hm => by
  have : (s.heap.get? B).isSome = true := by
    rcases List.mem_cons.mp hm with rfl | hm
    · exact ns_live Z.F.ns
    · exact Z.live B hm
  rw [h] at this; cases this
/-- a local name is stored -/
theorem LF.st {x : Str} {v : Value} {Q : Unit → Shared → Prop} (Z : LF s₀ R L m s c1 c2)
    (h : ∀ s', LF s₀ R L (upd m x v) s' c1 c2 → Q () s') (hl : (e21 L a cd).kindOf x = some .local := by rfl) :
    wpAny (model prog w) A (storeName (e21 L a cd) x v) Q NoE s :=
  stL Z.F (fun s' F' M => h s' (Z.kb F' M.kb)) hl rfl rfl
/-- a fresh list goes into the reference -/
theorem LF.adoptL {α : Type} {P : Heap → Value → α → Prop} (hP : MonoP P) {s₁ : Shared} {B : Addr} {vs : Array Value} {xs : List α} (Z : LF s₀ R L m s c1 c2) (Z₁ : LF s₀ R L m s₁ c1 c2) (hf : s.heap.get? B = none) (hp : s₁.heap.PlainList B vs) (al : All2 (fun v a => P R v a) vs.toList xs) :
    ∃ R', Grow R R' s₀.heap ∧ LF s₀ R' L m s₁ c1 c2 ∧ IsLst P R' (.ref B) xs := by
  refine Classical.byContradiction fun hNo => ?_
  obtain ⟨n, hp⟩ := hp
  obtain ⟨R', g, F', h⟩ := Z₁.F.adopt hp (Z.F.none_of hf).2 (Z.notin hf)
  refine hNo ?_
  clear hNo
  exact ⟨R', g, ⟨F', Z₁.k1, Z₁.k2⟩, B, vs, rfl, ⟨n, h⟩, All2.mono (fun _ _ y => hP _ _ _ _ g.sub y) al⟩

/-- a slice of a list -/
theorem LF.slice {α : Type} {P : Heap → Value → α → Prop} (hP : MonoP P) {env : Env} {value : Expr} {lower upper : Option Expr} {p pos : Pos} {Q : Value → Shared → Prop}
    (h : wpAny (model prog w) A (eval value env) (fun o s₁ => wpAny (model prog w) A (evalPart lower env) (fun vl s₂ => wpAny (model prog w) A (evalPart upper env) (fun vu s₃ =>
      ∃ R₁ lo hi xs, LF s₀ R₁ L m s₃ c1 c2 ∧ IsLst P R₁ o xs ∧ xs.length ≤ 10000 ∧ IsPart vl lo ∧ IsPart vu hi ∧
        ∀ R' s' v, Grow R₁ R' s₀.heap → LF s₀ R' L m s' c1 c2 → IsLst P R' v (cut xs lo hi) → Q v s') NoE s₂) NoE s₁) NoE s) :
    wpAny (model prog w) A (eval (.Subscript value (.Slice lower upper none p) pos) env) Q NoE s := by
  refine Subscript_ (wpAny_mono h (fun o s₁ h₁ => ?_) fun _ _ f => f)
  refine wpAny_Slice (wpAny_mono h₁ (fun vl s₂ h₂ => wpAny_mono h₂ (fun vu s₃ h₃ => ?_) fun _ _ f => f) fun _ _ f => f)
  refine evalPart_none_step ?_
  refine Classical.byContradiction fun hNo => ?_
  obtain ⟨R₁, lo, hi, xs, Z, ⟨D, vs, rfl, hp, hall⟩, hn, pl, pu, hQ⟩ := h₃
  refine hNo ?_
  clear hNo
  have hlen := hall.length
  have hsz : vs.size = xs.length := by rwa [Array.length_toList] at hlen
  have hl : s₃.heap.IsList D vs := (hp.at fun o e => Z.F.has _ o e).isList
  refine tail_any (T := "list") (ops := [.ref s₃.heap.objs.size, .ref D]) (hl.push _).typeIs slot_list_getitem.lookup ?_ rfl
  refine wpAny_getItem_list_slice (hl.push _) (Heap.IsSliceOf.new ..) pl pu .none (by simp) ?_ (by rw [sizeLine_eq]; omega)
  have hz : (s₃.heap.push { cls := .type "slice", data := .fields #[vl, vu, .none] }).objs.size = s₃.heap.objs.size + 1 := Heap.size_push ..
  have Z₁ := Z.push (tk := s₃.toks) { cls := .type "slice", data := .fields #[vl, vu, .none] }
  have Z₂ := Z₁.push (tk := s₃.toks) { cls := .type "list", data := .seq (slicePick vs lo hi none) }
  have hfr := get_size_none (s₃.heap.push { cls := .type "slice", data := .fields #[vl, vu, .none] })
  obtain ⟨R', g, Z₃, hl⟩ := LF.adoptL (α := α) (P := P) (xs := cut xs lo hi) (vs := slicePick vs lo hi none) hP Z₁ Z₂ hfr ⟨_, Heap.get?_push_size _ rfl⟩ (by
    rw [slicePick_plain, hsz]; exact (hall.drop _).take _)
  exact hQ R' _ _ g Z₃ hl

/-- two lists, one behind the other -/
theorem LF.addL {α : Type} {P : Heap → Value → α → Prop} (hP : MonoP P) {v₁ v₂ : Value} {xs ys : List α} {Q : Value → Shared → Prop} (Z : LF s₀ R L m s c1 c2) (h₁ : IsLst P R v₁ xs) (h₂ : IsLst P R v₂ ys) (hn : xs.length + ys.length ≤ 100000)
    (h : ∀ R' s' v, Grow R R' s₀.heap → LF s₀ R' L m s' c1 c2 → IsLst P R' v (xs ++ ys) → Q v s') :
    wpAny (model prog w) A (binaryOp .Add v₁ v₂) Q NoE s := by
  refine Classical.byContradiction fun hNo => ?_
  obtain ⟨D₁, vs₁, rfl, ⟨n₁, p₁⟩, a₁⟩ := h₁
  obtain ⟨D₂, vs₂, rfl, ⟨n₂, p₂⟩, a₂⟩ := h₂
  refine hNo ?_
  clear hNo
  have l₁ := a₁.length; have l₂ := a₂.length
  rw [Array.length_toList] at l₁ l₂
  refine PySem.P.add_list (Z.F.has _ _ p₁) (Z.F.has _ _ p₂) ?_ (by rw [sizeLine_eq]; omega)
  have Z₁ := Z.push (tk := s.toks) { cls := .type "list", data := .seq (vs₁ ++ vs₂) }
  obtain ⟨R', g, Z₂, hl⟩ := LF.adoptL (α := α) (P := P) (xs := xs ++ ys) (vs := vs₁ ++ vs₂) hP Z Z₁ (get_size_none _) ⟨_, Heap.get?_push_size _ rfl⟩ (by rw [Array.toList_append]; exact a₁.append a₂)
  exact h R' _ _ g Z₂ hl

set_option maxHeartbeats 1000000 in
/-- y = [elt for x in l] -/
theorem LF.compA {α β : Type} {P : Heap → Value → α → Prop} {P' : Heap → Value → β → Prop} {pz : α → Bool} {fy : α → β} (hP' : MonoP P') {y x : Str} {py px pos spos : Pos} {elt iter : Expr} {ifs : List Expr} {scope : Scope} {cl : List (Str × Addr)} {Q : Flow → Shared → Prop}
    (hh : A.handled = none)
    (hsw : swapsWith (.ListComp elt [⟨.Name x px, iter, ifs, 0⟩] scope pos) (some (.Name y py)) spos.line (e21 L a cd) = pure true)
    (hclos : closureFor scope (e21 L a cd) = pure cl) (hcell : ∀ y ∈ scope.names, y.2 ≠ .cell) (hkind : scope.kind = .function) (hnames : ∀ y ∈ scope.names, y.2 = .local → scope.names.lookup y.1 = some .local)
    (hs : ∀ x, foldedSetIterable iter (e21 L a cd) x = pure x) (hkx : ∀ C, (compEnvC scope cl C (e21 L a cd)).kindOf x = some .local) (hy : (e21 L a cd).kindOf y = some .local)
    (h : wpAny (model prog w) A (eval iter (e21 L a cd)) (fun v s₁ => ∃ R₁ xs, LF s₀ R₁ L m s₁ c1 c2 ∧ IsLst P R₁ v xs ∧ xs.length ≤ 1000 ∧
      ElOk prog w A s₀ s₁ R₁ (fun C => compEnvC scope cl C (e21 L a cd)) ifs elt (fun mc a => ∃ v, mc x = some v ∧ P R₁ v a) P' pz fy xs ∧
      ∀ R' s' v, Grow R₁ R' s₀.heap → LF s₀ R' L (upd m y v) s' c1 c2 → IsLst P' R' v ((xs.filter pz).map fy) → Q .next s') NoE s) :
    wpAny (model prog w) A (exec (.Assign [.Name y py] (.ListComp elt [⟨.Name x px, iter, ifs, 0⟩] scope pos) spos) (e21 L a cd)) Q NoE s := by
  refine assignL hsw hclos hcell hkind hnames (wpAny_mono h (fun v s₁ h₁ => ?_) fun _ _ f => f) hs
  refine Classical.byContradiction fun hNo => ?_
  obtain ⟨R₁, xs, Z, ⟨D, vs, rfl, hp, hall⟩, hn, EO, hQ⟩ := h₁
  refine hNo ?_
  clear hNo
  refine listComp (PI := P) (P := P') (pz := pz) (fy := fy) hh Z.F Z.live (by simp) hp hall hn hP' hkx hkind EO ?_
  intro B C mc R' X' s' g Fc hXX hLX' hLC hLB hBC hBX' hns mk hsub hsC
  refine listDoneA (s := s₁) hP' g Fc hXX hLX' hLC hLB hBC hBX' hns mk hsub hsC hy rfl rfl fun R₂ s₂ vs₂ g₂ F₂ hp₂ al₂ k₂ => ?_
  exact hQ R₂ s₂ _ g₂ (Z.kb F₂ k₂) ⟨B, vs₂, rfl, hp₂, al₂⟩
end
end Mine
end
section
open PySem PySem.W PySem.Calls PyProof.Rows
set_option maxRecDepth 100000
set_option linter.unusedVariables false
set_option linter.unusedSimpArgs false
namespace Mine

noncomputable def ls (i : Nat) : Stmt := (fn 21).body.getD i (.Pass ⟨0, 0, 0, 0⟩)

section
variable {prog : Program} {w : World} {A : Around} {s s₀ : Shared} {R R' R₀ : Heap} {L a : Addr} {cd : Value} {m : Str → Option Value} {mg mb : Str → Option Value} {c1 c2 : Option Value}

theorem cut_to {α : Type} (xs : List α) (k : Nat) : cut xs none (some (k : Int)) = xs.take k := by
  unfold cut
  show (xs.drop 0).take (clipAt xs.length (k : Int) - 0) = _
  rw [clipAt_nat, List.drop_zero, Nat.sub_zero]
  rcases Nat.le_total k xs.length with h | h
  · rw [Nat.min_eq_left h]
  · rw [Nat.min_eq_right h, List.take_of_length_le (Nat.le_refl _), List.take_of_length_le h]
theorem cut_from {α : Type} (xs : List α) (k : Nat) : cut xs (some (k : Int)) none = xs.drop k := by
  unfold cut
  show (xs.drop (clipAt xs.length (k : Int))).take (xs.length - clipAt xs.length (k : Int)) = _
  rw [clipAt_nat, List.take_of_length_le (by simp)]
  rcases Nat.le_total k xs.length with h | h
  · rw [Nat.min_eq_left h]
  · rw [Nat.min_eq_right h, List.drop_eq_nil_of_le (Nat.le_refl _), List.drop_eq_nil_of_le h]

theorem filtT {α : Type} (xs : List α) : xs.filter (fun _ => true) = xs := List.filter_eq_self.mpr (by simp)

theorem st0 (hh : A.handled = none) (Z : LF s₀ R L m s c1 c2) {sv : Value} {script : List Int} (hm : m "script" = some sv) (hsc : IsLst isI R sv script) (hn : script.length ≤ 63) {Q : Flow → Shared → Prop}
    (h : ∀ R' s' v, Grow R R' s₀.heap → LF s₀ R' L (upd m "drawn" v) s' c1 c2 → IsLst isI R' v ((script.take 5).map fun n => n.fmod (10 ^ 6)) → Q .next s') :
    wpAny (model prog w) A (exec (ls 0) (e21 L a cd)) Q NoE s := by
  refine LF.compA (s₀ := s₀) (m := m) (c1 := c1) (c2 := c2) (cl := []) (P := isI) (P' := isI) (pz := fun _ => true) (fy := fun n : Int => n.fmod (10 ^ 6)) monoI hh ?_ rfl (by decide) rfl (by decide) (fun _ => rfl) (fun _ => rfl) rfl ?_
  · rfl
  refine LF.slice (s₀ := s₀) (L := L) (m := m) (P := isI) (c1 := c1) (c2 := c2) monoI ?_
  refine nmL Z.F hm ?_
  refine evalPart_none_step ?_
  refine evalPart_some_step ?_
  refine wpAny_Constant_int ?_
  refine ⟨R, none, some 5, script, Z.tok, hsc, by omega, .none, .int _ _, fun R₁ s₁ v g₁ Z₁ hl => ?_⟩
  have e5 : cut script none (some 5) = script.take 5 := cut_to script 5
  rw [e5] at hl
  refine ⟨R₁, script.take 5, Z₁, hl, by rw [List.length_take]; omega, ?_, fun R₂ s₂ v₂ g₂ Z₂ hl₂ => h R₂ s₂ v₂ (g₁.trans g₂ (Sub.refl _)) Z₂ ?_⟩
  · intro C n s₃ R₃ XX mc hmem g₃ F₃ hXX hCX hsub hJo
    refine Classical.byContradiction fun hNo => ?_
    obtain ⟨v, hv, t, rfl⟩ := hJo
    refine hNo ?_
    clear hNo
    refine wpAny_tests_nil ?_
    refine ⟨rfl, ⟨s₃.toks, rfl⟩, fun _ => ?_⟩
    refine wpAny_BinOp (nmL F₃ hv ?_ rfl rfl rfl)
    refine wpAny_BinOp (wpAny_Constant_int (wpAny_Constant_int ?_))
    refine pow_int_small (by decide) (by decide) (by decide) ?_
    refine PyProof.Rows.mod_int' (by decide) ?_
    exact ⟨R₃, Grow.refl _ _, F₃.tok, Sub.refl _, _, rfl⟩
  · rw [filtT] at hl₂; exact hl₂
end
end Mine
end
section
open PySem PySem.W PySem.Calls PyProof.Rows
set_option maxRecDepth 100000
set_option linter.unusedVariables false
set_option linter.unusedSimpArgs false
namespace Mine

section
variable {prog : Program} {w : World} {A : Around} {s s₀ : Shared} {R R' R₀ : Heap} {L a : Addr} {cd : Value} {m : Str → Option Value} {mg mb : Str → Option Value} {c1 c2 : Option Value}

theorem ints_of : ∀ {vs : List Value} {ns : List Int}, All2 (fun v n => isI R v n) vs ns → IntsAre vs ns
  | [], [], _ => .nil
  | v :: vs, n :: ns, h => by obtain ⟨t, rfl⟩ := h.1; exact .cons n t (ints_of h.2)
  | [], _ :: _, h => h.elim
  | _ :: _, [], h => h.elim

theorem sumL {v : Value} {ns : List Int} {Q : Value → Shared → Prop} (hh : A.handled = none) (hR : Sub R s.heap) (hv : IsLst isI R v ns)
    (h : ∀ h' tk t, Sub s.heap h' → Q (.int ns.sum t) { s with heap := h', toks := tk }) : wpAny (model prog w) A (call (.builtin "sum") [v]) Q NoE s := by
  refine Classical.byContradiction fun hNo => ?_
  obtain ⟨D, vs, rfl, hp, al⟩ := hv
  refine hNo ?_
  clear hNo
  have hi := ints_of al
  obtain ⟨xs, hx⟩ := hi.allInts.items
  have hl : s.heap.IsList D (intItems xs) := by rw [← hx]; exact (hp.at fun o e => hR _ o e).isList
  refine sum_intListG hh hl fun h' tk t' hk => ?_
  have e1 : ns = xs.toList.map (·.1) := by
    rw [← nums_intItems, ← hx]; exact hi.numsOf.symm
  have e2 : preSum (numAt xs) xs.size = ns.sum := by
    rw [preSum_eq, List.take_of_length_le (by simp), e1]
  rw [e2]
  exact h h' tk t' hk

/-- numbers -/
theorem st1 (G : GE prog w mg mb R₀) (hR : Sub R₀ R) (Z : LF s₀ R L m s c1 c2) {v : Value} {ns : List Int} (hm : m "drawn" = some v) (hv : IsLst isI R v ns) (hn : ns.length ≤ 5) {Q : Flow → Shared → Prop}
    (h : ∀ R' s' v, Grow R R' s₀.heap → LF s₀ R' L (upd m "numbers" v) s' c1 c2 → IsLst isI R' v ((ns ++ [(54 : Int), 38, 23].drop ns.length).take 3 ++ ns.drop 3) → Q .next s') :
    wpAny (model prog w) A (exec (ls 1) (e21 L a cd)) Q NoE s := by
  have GG := G.keeps hR
  refine wpAny_Assign_Name ?_
  refine wpAny_BinOp ?_
  refine LF.slice (s₀ := s₀) (L := L) (m := m) (P := isI) (c1 := c1) (c2 := c2) monoI ?_
  refine wpAny_BinOp ?_
  refine nmL Z.F hm ?_
  refine LF.slice (s₀ := s₀) (L := L) (m := m) (P := isI) (c1 := c1) (c2 := c2) monoI ?_
  refine wpAny_List ?_
  refine args_cons (wpAny_Constant_int ?_) ?_
  case refine_2 => rfl
  refine args_cons (wpAny_Constant_int ?_) ?_
  case refine_2 => rfl
  refine args_cons (wpAny_Constant_int ?_) ?_
  case refine_2 => rfl
  refine args_nil ⟨by show 3 ≤ sizeLine; rw [sizeLine_eq]; omega, ?_⟩
  have Z₁ := Z.push (tk := s.toks + 1 + 1 + 1) { cls := .type "list", data := .seq [.int 54 s.toks, .int 38 (s.toks + 1), .int 23 (s.toks + 1 + 1)].toArray }
  refine Classical.byContradiction fun hNo => ?_
  obtain ⟨R₁, g₁, Z₂, hl₁⟩ := LF.adoptL (α := Int) (P := isI) (xs := [54, 38, 23]) (vs := #[.int 54 s.toks, .int 38 (s.toks + 1), .int 23 (s.toks + 1 + 1)]) monoI Z Z₁ (get_size_none _) ⟨_, Heap.get?_push_size _ rfl⟩ ⟨⟨_, rfl⟩, ⟨_, rfl⟩, ⟨_, rfl⟩, trivial⟩
  refine hNo ?_
  clear hNo
  refine evalPart_some_step ?_
  refine Call_ (nmB Z₂.F (GG.keeps g₁.sub).g (GG.keeps g₁.sub).b GG.len.1 GG.len.2 (PyProof.Rows.callWith_builtin1 (args_cons (nmL Z₂.F hm (args_nil ?_))) rfl rfl))
  refine Classical.byContradiction fun hNo => ?_
  obtain ⟨D, vs, rfl, hp, hall⟩ := hv.keeps monoI g₁.sub
  refine hNo ?_
  clear hNo
  have hlen := hall.length
  rw [Array.length_toList] at hlen
  refine call_len_list (hp.at fun o e => Z₂.F.has _ o e).isList (by omega) ?_
  refine evalPart_none_step ?_
  rw [hlen]
  refine ⟨R₁, some (ns.length : Int), none, [54, 38, 23], Z₂.tok, hl₁, by simp, .int _ _, .none, fun R₃ s₃ v₃ g₃ Z₃ hl₃ => ?_⟩
  rw [cut_from] at hl₃
  refine LF.addL (P := isI) monoI Z₃ (hv.keeps monoI (g₁.sub.trans g₃.sub)) hl₃ (by simp; omega) fun R₄ s₄ v₄ g₄ Z₄ hl₄ => ?_
  refine evalPart_none_step ?_
  refine evalPart_some_step ?_
  refine wpAny_Constant_int ?_
  refine ⟨R₄, none, some 3, _, Z₄.tok, hl₄, by simp; omega, .none, .int _ _, fun R₅ s₅ v₅ g₅ Z₅ hl₅ => ?_⟩
  rw [show (some (3 : Int)) = some ((3 : Nat) : Int) from rfl, cut_to] at hl₅
  refine LF.slice (s₀ := s₀) (L := L) (m := m) (P := isI) (c1 := c1) (c2 := c2) monoI ?_
  refine nmL Z₅.F hm ?_
  refine evalPart_some_step ?_
  refine wpAny_Constant_int ?_
  refine evalPart_none_step ?_
  refine ⟨R₅, some 3, none, ns, Z₅.tok, hv.keeps monoI (g₁.sub.trans (g₃.sub.trans (g₄.sub.trans g₅.sub))), by omega, .int _ _, .none, fun R₆ s₆ v₆ g₆ Z₆ hl₆ => ?_⟩
  rw [show (some (3 : Int)) = some ((3 : Nat) : Int) from rfl, cut_from] at hl₆
  refine LF.addL (P := isI) monoI Z₆ (hl₅.keeps monoI g₆.sub) hl₆ (by simp; omega) fun R₇ s₇ v₇ g₇ Z₇ hl₇ => ?_
  refine Z₇.st fun s' Z' => ?_
  exact h R₇ s' v₇ ((((g₁.trans g₃ (Sub.refl _)).trans g₄ (Sub.refl _)).trans g₅ (Sub.refl _)).trans (g₆.trans g₇ (Sub.refl _)) (Sub.refl _)) Z' hl₇

/-- total -/
theorem st2 (G : GE prog w mg mb R₀) (hh : A.handled = none) (hR : Sub R₀ R) (Z : LF s₀ R L m s c1 c2) {v : Value} {ns : List Int} (hm : m "numbers" = some v) (hv : IsLst isI R v ns) {Q : Flow → Shared → Prop}
    (h : ∀ s' t, LF s₀ R L (upd m "total" (.int ns.sum t)) s' c1 c2 → Q .next s') :
    wpAny (model prog w) A (exec (ls 2) (e21 L a cd)) Q NoE s := by
  have GG := G.keeps hR
  refine wpAny_Assign_Name ?_
  refine Call_ (nmB Z.F GG.g GG.b GG.sum.1 GG.sum.2 (PyProof.Rows.callWith_builtin1 (args_cons (nmL Z.F hm (args_nil ?_))) rfl rfl))
  refine sumL hh Z.F.has hv fun h' tk t hk => ?_
  exact (Z.keep hk).st fun s' Z' => h s' t Z'

/-- family -/
theorem st3 (Z : LF s₀ R L m s c1 c2) {n : Int} {t : Tok} (hm : m "total" = some (.int n t)) {Q : Flow → Shared → Prop}
    (h : ∀ s' t, LF s₀ R L m s' (some (.int (n.fmod 4) t)) c2 → Q .next s') :
    wpAny (model prog w) A (exec (ls 3) (e21 L a cd)) Q NoE s := by
  refine wpAny_Assign_Name ?_
  refine wpAny_BinOp (nmL Z.F hm (wpAny_Constant_int (PyProof.Rows.mod_int' (by decide) ?_)))
  have Z₁ := Z.tok (tk := s.toks + 1 + 1)
  refine stC Z₁.F Z₁.k1 (by simp) (by simp) (fun s' F' k M => h s' _ ⟨F', k, isCell_kb Z₁.k2 M.kb (by simp)⟩) ?_ ?_ ?_
  · rfl
  · rfl
  · rfl

/-- left -/
theorem st4 (Z : LF s₀ R L m s c1 c2) {n : Int} {t : Tok} (hn : 0 ≤ n ∧ n < 2 ^ 40) (hm : m "total" = some (.int n t)) {Q : Flow → Shared → Prop}
    (h : ∀ s', LF s₀ R L (upd m "left" (.bool ((n.fdiv 4).fmod 2 == 0))) s' c1 c2 → Q .next s') :
    wpAny (model prog w) A (exec (ls 4) (e21 L a cd)) Q NoE s := by
  refine wpAny_Assign_Name ?_
  refine wpAny_Compare1 ?_
  refine wpAny_BinOp ?_
  refine wpAny_BinOp ?_
  refine nmL Z.F hm (wpAny_Constant_int (PyProof.Rows.floordiv_int (by decide) ?_))
  refine wpAny_Constant_int ?_
  refine PyProof.Rows.mod_int' (by decide) ?_
  refine wpAny_Constant_int ?_
  refine PySem.P.eq_int ?_
  exact Z.tok.st fun s' Z' => h s' Z'
end
end Mine
end
section
open PySem PySem.W PySem.Calls PyProof.Rows
set_option maxRecDepth 100000
set_option linter.unusedVariables false
set_option linter.unusedSimpArgs false
namespace Mine

noncomputable abbrev isN : Heap → Value → Nat → Prop := fun _ v n => ∃ t, v = Value.int (n : Int) t
theorem monoN : MonoP isN := fun _ _ _ _ _ y => y
theorem all_IN : ∀ {vs : List Value} {ns : List Nat} {h : Heap}, All2 (fun v n => isI h v n) vs (ns.map fun n : Nat => (n : Int)) → All2 (fun v n => isN h v n) vs ns
  | [], [], _, _ => trivial
  | v :: vs, n :: ns, h, x => ⟨x.1, all_IN x.2⟩
  | [], _ :: _, _, x => x.elim
  | _ :: _, [], _, x => x.elim
theorem lst_IN {h : Heap} {v : Value} {ns : List Nat} (x : IsLst isI h v (ns.map fun n : Nat => (n : Int))) : IsLst isN h v ns := let ⟨D, vs, e, p, al⟩ := x; ⟨D, vs, e, p, all_IN al⟩
noncomputable abbrev isS : Heap → Value → List Nat → Prop := fun _ v c => strV c v
theorem monoS : MonoP isS := fun _ _ _ _ _ y => y
theorem monoDr : MonoP IsDr := fun _ _ _ _ k y => y.keeps k
noncomputable def drV (d : Dr) (arr : Array Value) : Prop := ∃ t1 t2 t3 t4, arr = #[.str ⟨d.ahead.toArray⟩ t1, .str ⟨#[d.sign]⟩ t2, .str ⟨d.word.toArray⟩ t3, .int (d.und : Int) t4]
noncomputable def drB (m : Str → Option Value) (d : Dr) : Prop := ∃ t1 t2 t3 t4, m "ahead" = some (.str ⟨d.ahead.toArray⟩ t1) ∧ m "sign" = some (.str ⟨#[d.sign]⟩ t2) ∧ m "word" = some (.str ⟨d.word.toArray⟩ t3) ∧ m "undone" = some (.int (d.und : Int) t4)

section
variable {prog : Program} {w : World} {A : Around} {s s₀ : Shared} {R R' R₀ : Heap} {L a : Addr} {cd : Value} {m : Str → Option Value} {mg mb : Str → Option Value} {c1 c2 : Option Value}

/-- letters -/
theorem st5 (G : GE prog w mg mb R₀) (hA : AOk A 7) (hR : Sub R₀ R) (Z : LF s₀ R L m s c1 c2) {i : Nat} (hi : i < 4) {ti : Tok} (hc1 : c1 = some (.int (i : Int) ti)) {v : Value} {ns : List Nat} (hm : m "numbers" = some v) (hv : IsLst isN R v ns) (hn : ns.length ≤ 5) {Q : Flow → Shared → Prop}
    (h : ∀ R' s' v, Grow R R' s₀.heap → LF s₀ R' L (upd m "letters" v) s' c1 c2 → IsLst IsDr R' v (ns.map (drawnP i)) → Q .next s') :
    wpAny (model prog w) A (exec (ls 5) (e21 L a cd)) Q NoE s := by
  refine LF.compA (s₀ := s₀) (m := m) (c1 := c1) (c2 := c2) (cl := [("family", L + 1)]) (P := isN) (P' := IsDr) (pz := fun _ => true) (fy := drawnP i) monoDr hA.hh ?_ rfl (by decide) rfl (by decide) (fun _ => rfl) (fun _ => rfl) rfl ?_
  · rfl
  refine nmL Z.F hm ?_
  refine ⟨R, ns, Z, hv, by omega, ?_, fun R₂ s₂ v₂ g₂ Z₂ hl₂ => h R₂ s₂ v₂ g₂ Z₂ (by rw [filtT] at hl₂; exact hl₂)⟩
  intro C n s₃ R₃ XX mc hmem g₃ F₃ hXX hCX hsub hJo
  refine Classical.byContradiction fun hNo => ?_
  obtain ⟨v, hv, t, rfl⟩ := hJo
  refine hNo ?_
  clear hNo
  refine wpAny_tests_nil ?_
  refine ⟨rfl, ⟨s₃.toks, rfl⟩, fun _ => ?_⟩
  have GG := G.keeps (hR.trans g₃.sub)
  refine callF F₃ GG.g (GG.fns 15 (by simp)) rfl ?_ rfl rfl rfl rfl (by decide)
  refine args_cons (nmL F₃ hv ?_ rfl rfl rfl) rfl
  refine args_cons ?_ rfl
  have hc := isCell_kb (Y := []) Z.k1 (KB.of_sub hsub) (by simp)
  rw [hc1] at hc
  refine nmC hc ?_ rfl rfl rfl rfl
  refine args_nil ⟨F₃.has, fun a' ha' => ?_⟩
  refine wpAny_mono (drawn_spec GG hA F₃.has a' ha' hi) (fun v s₁ h₁ => ?_) fun _ _ q => q
  refine Classical.byContradiction fun hNo => ?_
  obtain ⟨st, R', G', S', hd⟩ := h₁
  refine hNo ?_
  clear hNo
  exact ⟨R', G'.back F₃.step.sub, F₃.call st G' S' hXX, st.sub, hd⟩

set_option maxHeartbeats 1000000 in
/-- y = [elt for ahead, sign, word, undone in letters] -/
theorem LF.compT {β : Type} {ns : List (Str × Pos)} {P' : Heap → Value → β → Prop} {pz : Dr → Bool} {fy : Dr → β} (hP' : MonoP P') (hns : ns.map (·.1) = [("ahead" : Str), "sign", "word", "undone"]) {y : Str} {py tp pos spos : Pos} {kt : Nat} {elt iter : Expr} {ifs : List Expr} {scope : Scope} {cl : List (Str × Addr)} {Q : Flow → Shared → Prop}
    (hh : A.handled = none)
    (hsw : swapsWith (.ListComp elt [⟨.Tuple (ns.map fun x => Expr.Name x.1 x.2) kt tp, iter, ifs, 0⟩] scope pos) (some (.Name y py)) spos.line (e21 L a cd) = pure true)
    (hclos : closureFor scope (e21 L a cd) = pure cl) (hcell : ∀ y ∈ scope.names, y.2 ≠ .cell) (hkind : scope.kind = .function) (hnames : ∀ y ∈ scope.names, y.2 = .local → scope.names.lookup y.1 = some .local)
    (hs : ∀ x, foldedSetIterable iter (e21 L a cd) x = pure x) (hkx : ∀ C, ∀ x ∈ ns, (compEnvC scope cl C (e21 L a cd)).kindOf x.1 = some .local) (hy : (e21 L a cd).kindOf y = some .local)
    (h : wpAny (model prog w) A (eval iter (e21 L a cd)) (fun v s₁ => ∃ R₁ xs, LF s₀ R₁ L m s₁ c1 c2 ∧ IsLst IsDr R₁ v xs ∧ xs.length ≤ 1000 ∧
      ElOk prog w A s₀ s₁ R₁ (fun C => compEnvC scope cl C (e21 L a cd)) ifs elt drB P' pz fy xs ∧
      ∀ R' s' v, Grow R₁ R' s₀.heap → LF s₀ R' L (upd m y v) s' c1 c2 → IsLst P' R' v ((xs.filter pz).map fy) → Q .next s') NoE s) :
    wpAny (model prog w) A (exec (.Assign [.Name y py] (.ListComp elt [⟨.Tuple (ns.map fun x => Expr.Name x.1 x.2) kt tp, iter, ifs, 0⟩] scope pos) spos) (e21 L a cd)) Q NoE s := by
  refine assignL hsw hclos hcell hkind hnames (wpAny_mono h (fun v s₁ h₁ => ?_) fun _ _ f => f) hs
  refine Classical.byContradiction fun hNo => ?_
  obtain ⟨R₁, xs, Z, ⟨D, vs, rfl, hp, hall⟩, hn, EO, hQ⟩ := h₁
  refine hNo ?_
  clear hNo
  have hl4 : ns.length = 4 := by rw [← List.length_map (f := (·.1)), hns]; rfl
  refine listCompT (V := drV) (P := P') (pz := pz) (fy := fy) hh Z.F Z.live (by simp) hp (All2.mono (fun v d q => ?_) hall) ?_ ?_ hn hP' hkx hkind EO ?_
  · obtain ⟨T, t1, t2, t3, t4, rfl, hT⟩ := q
    exact ⟨T, _, rfl, hT, t1, t2, t3, t4, rfl⟩
  · intro d arr hJo
    refine Classical.byContradiction fun hNo => ?_
    obtain ⟨t1, t2, t3, t4, rfl⟩ := hJo
    refine hNo ?_
    clear hNo
    exact hl4
  · intro m₁ d arr hJo
    refine Classical.byContradiction fun hNo => ?_
    obtain ⟨t1, t2, t3, t4, rfl⟩ := hJo
    refine hNo ?_
    clear hNo
    rw [hns]
    exact ⟨t1, t2, t3, t4, rfl, rfl, rfl, rfl⟩
  intro B C mc R' X' s' g Fc hXX hLX' hLC hLB hBC hBX' hns mk hsub hsC
  refine listDoneA (s := s₁) hP' g Fc hXX hLX' hLC hLB hBC hBX' hns mk hsub hsC hy rfl rfl fun R₂ s₂ vs₂ g₂ F₂ hp₂ al₂ k₂ => ?_
  exact hQ R₂ s₂ _ g₂ (Z.kb F₂ k₂) ⟨B, vs₂, rfl, hp₂, al₂⟩

/-- ahead + _law_unit(sign, undone) -/
theorem unitsCall {env : Env} {X : List Addr} {C : Addr} {mc : Str → Option Value} {d : Dr} {Q : Value → Shared → Prop} {p1 p2 p3 p4 p5 p6 : Pos} (G : GE prog w mg mb R) (hA : AOk A 4) (F : Fm s₀ R X C mc s) (hX : ∀ x ∈ X, (s.heap.get? x).isSome = true) (hB : drB mc d) (hd : d.ahead.length ≤ 3) (hu : d.und ≤ 1)
    (h : ∀ R' s' v, Grow R R' s.heap → Fm s₀ R' X C mc s' → Sub s.heap s'.heap → strV (partP d) v → Q v s')
    (hl1 : env.kindOf "ahead" = some .local) (hl2 : env.kindOf "sign" = some .local) (hl3 : env.kindOf "undone" = some .local) (hl4 : env.kindOf "_law_unit" = some .globalImplicit) (hk : env.scope.kind = .function) (hL : env.locals = C) (hG : env.globals = mainGlobals) :
    wpAny (model prog w) A (eval (.BinOp (.Name "ahead" p1) .Add (.Call (.Name "_law_unit" p2) [.Name "sign" p3, .Name "undone" p4] [] p5) p6) env) Q NoE s := by
  refine Classical.byContradiction fun hNo => ?_
  obtain ⟨t1, t2, t3, t4, e1, e2, e3, e4⟩ := hB
  refine hNo ?_
  clear hNo
  refine wpAny_BinOp (nmL F e1 ?_ hl1 hk hL)
  refine callF F G.g (G.fns 16 (by simp)) rfl ?_ rfl hl4 hk hG (by decide)
  refine args_cons (nmL F e2 ?_ hl2 hk hL) rfl
  refine args_cons (nmL F e4 ?_ hl3 hk hL) rfl
  refine args_nil ⟨F.has, fun a' ha' => ?_⟩
  refine wpAny_mono (unit_spec (cs := [d.sign]) G hA F.has a' ha' (by simp)) (fun v s₁ h₁ => ?_) fun _ _ q => q
  refine Classical.byContradiction fun hNo => ?_
  obtain ⟨st, R', G', S', t, rfl⟩ := h₁
  refine hNo ?_
  clear hNo
  have F₁ := F.call st G' S' hX
  refine PyProof.Rows.add_str (fun t' tk => ?_) ?_
  · refine h R' _ _ G' F₁.tok st.sub ⟨t', ?_⟩
    rw [strApp]
    unfold partP unitP
    by_cases hz : d.und = 1
    · simp [hz]
    · have : ((d.und : Int)) ≠ 1 := by omega
      simp [hz, this]
  · rw [strLen, strLen, sizeLine_eq]
    split <;> simp <;> omega

/-- parts -/
theorem st6 (G : GE prog w mg mb R₀) (hA : AOk A 4) (hR : Sub R₀ R) (Z : LF s₀ R L m s c1 c2) {v : Value} {ds : List Dr} (hm : m "letters" = some v) (hv : IsLst IsDr R v ds) (hn : ds.length ≤ 5) (hds : ∀ d ∈ ds, d.ahead.length ≤ 3 ∧ d.und ≤ 1) {Q : Flow → Shared → Prop}
    (h : ∀ R' s' v, Grow R R' s₀.heap → LF s₀ R' L (upd m "parts" v) s' c1 c2 → IsLst isS R' v (ds.map partP) → Q .next s') :
    wpAny (model prog w) A (exec (ls 6) (e21 L a cd)) Q NoE s := by
  refine LF.compT (s₀ := s₀) (m := m) (c1 := c1) (c2 := c2) (cl := []) (P' := isS) (pz := fun _ => true) (fy := partP) (ns := [("ahead", ⟨143, 49, 143, 54⟩), ("sign", ⟨143, 56, 143, 60⟩), ("word", ⟨143, 62, 143, 66⟩), ("undone", ⟨143, 68, 143, 74⟩)]) monoS rfl hA.hh ?_ rfl (by decide) rfl (by decide) (fun _ => rfl) (by
    intro C x hx
    simp only [List.mem_cons, List.not_mem_nil, or_false] at hx
    rcases hx with rfl | rfl | rfl | rfl <;> rfl) rfl ?_
  · rfl
  refine nmL Z.F hm ?_
  refine ⟨R, ds, Z, hv, by omega, ?_, fun R₂ s₂ v₂ g₂ Z₂ hl₂ => h R₂ s₂ v₂ g₂ Z₂ (by rw [filtT] at hl₂; exact hl₂)⟩
  rintro C d s₃ R₃ XX mc hmem g₃ F₃ hXX hCX hsub hB
  refine wpAny_tests_nil ?_
  refine ⟨rfl, ⟨s₃.toks, rfl⟩, fun _ => ?_⟩
  refine unitsCall (G.keeps (hR.trans g₃.sub)) hA F₃ hXX hB (hds d hmem).1 (hds d hmem).2 (fun R' s' v g F' k hv' => ⟨R', g.back F₃.step.sub, F', k, hv'⟩) rfl rfl rfl rfl rfl rfl rfl
end
end Mine
end
section
open PySem PySem.W PySem.Calls PyProof.Rows
set_option maxRecDepth 100000
set_option linter.unusedVariables false
set_option linter.unusedSimpArgs false
namespace Mine

section
variable {prog : Program} {w : World} {A : Around} {s s₀ : Shared} {R R' R₀ : Heap} {L a : Addr} {cd : Value} {m : Str → Option Value} {mg mb : Str → Option Value} {c1 c2 : Option Value}

/-- an expression that is a text, without a trace -/
noncomputable def EvS (prog : Program) (w : World) (A : Around) (s₀ : Shared) (R : Heap) (L : Addr) (m : Str → Option Value) (c1 c2 : Option Value) (env : Env) (e : Expr) (cs : List Nat) : Prop :=
  ∀ (s : Shared) (Q : Value → Shared → Prop), LF s₀ R L m s c1 c2 → (∀ t tk, Q (.str ⟨cs.toArray⟩ t) { s with toks := tk }) → wpAny (model prog w) A (eval e env) Q NoE s
theorem EvS.add {env : Env} {e₁ e₂ : Expr} {a b : List Nat} {p : Pos} (x : EvS prog w A s₀ R L m c1 c2 env e₁ a) (y : EvS prog w A s₀ R L m c1 c2 env e₂ b) (hn : a.length + b.length ≤ 100000) :
    EvS prog w A s₀ R L m c1 c2 env (.BinOp e₁ .Add e₂ p) (a ++ b) := by
  intro s Q Z h
  refine wpAny_BinOp (x s _ Z fun t tk => y _ _ Z.tok fun t' tk' => ?_)
  refine PyProof.Rows.add_str (fun t₂ tk₂ => ?_) ?_
  · rw [strApp]; exact h _ _
  · rw [strLen, strLen, sizeLine_eq]; omega
theorem EvS.lit {env : Env} {x : Str} {k : Nat} {p : Pos} {cs : List Nat} (hx : x = ⟨cs.toArray⟩) : EvS prog w A s₀ R L m c1 c2 env (.Constant (.str x) k p) cs := by
  intro s Q Z h
  subst hx
  exact wpAny_Constant_str (h _ _)
theorem EvS.part {v : Value} {ps : List (List Nat)} {i : Nat} {c : List Nat} {k : Nat} {p1 p2 p3 : Pos} (hm : m "parts" = some v) (hv : IsLst isS R v ps) (hi : ps[i]? = some c) (hi2 : i < 1000) :
    EvS prog w A s₀ R L m c1 c2 (e21 L a cd) (.Subscript (.Name "parts" p1) (.Constant (.int (i : Int)) k p2) p3) c := by
  intro s Q Z h
  refine Classical.byContradiction fun hNo => ?_
  obtain ⟨D₁, vs, rfl, hp, al⟩ := hv
  obtain ⟨v, hv, t, rfl⟩ := al.get' hi
  refine hNo ?_
  clear hNo
  refine Subscript_ (nmL Z.F hm (wpAny_Constant_int ?_))
  refine itemL (hp.at fun o e => Z.F.has _ o e).isList (by omega) (by omega) (x := .str ⟨c.toArray⟩ t) (by simpa using hv) (h _ _) rfl

theorem EvS.run {env : Env} {e : Expr} {cs : List Nat} {Q : Value → Shared → Prop} (x : EvS prog w A s₀ R L m c1 c2 env e cs) (Z : LF s₀ R L m s c1 c2) (h : ∀ t tk, Q (.str ⟨cs.toArray⟩ t) { s with toks := tk }) :
    wpAny (model prog w) A (eval e env) Q NoE s := x s Q Z h

/-- a display of five numbers -/
theorem five {a1 a2 a3 a4 a5 : Nat} {k1 k2 k3 k4 k5 : Nat} {p1 p2 p3 p4 p5 p6 : Pos} {env : Env} {Q : Value → Shared → Prop} (Z : LF s₀ R L m s c1 c2)
    (h : ∀ R' s' v, Grow R R' s₀.heap → LF s₀ R' L m s' c1 c2 → IsLst isN R' v [a1, a2, a3, a4, a5] → Q v s') :
    wpAny (model prog w) A (eval (.List [.Constant (.int (a1 : Int)) k1 p1, .Constant (.int (a2 : Int)) k2 p2, .Constant (.int (a3 : Int)) k3 p3, .Constant (.int (a4 : Int)) k4 p4, .Constant (.int (a5 : Int)) k5 p5] p6) env) Q NoE s := by
  refine wpAny_List ?_
  refine args_cons (wpAny_Constant_int ?_) ?_
  case refine_2 => rfl
  refine args_cons (wpAny_Constant_int ?_) ?_
  case refine_2 => rfl
  refine args_cons (wpAny_Constant_int ?_) ?_
  case refine_2 => rfl
  refine args_cons (wpAny_Constant_int ?_) ?_
  case refine_2 => rfl
  refine args_cons (wpAny_Constant_int ?_) ?_
  case refine_2 => rfl
  refine args_nil ⟨by show 5 ≤ sizeLine; rw [sizeLine_eq]; omega, ?_⟩
  have Z₁ := Z.push (tk := s.toks + 1 + 1 + 1 + 1 + 1) { cls := .type "list", data := .seq [Value.int (a1 : Int) s.toks, .int (a2 : Int) (s.toks + 1), .int (a3 : Int) (s.toks + 1 + 1), .int (a4 : Int) (s.toks + 1 + 1 + 1), .int (a5 : Int) (s.toks + 1 + 1 + 1 + 1)].toArray }
  refine Classical.byContradiction fun hNo => ?_
  obtain ⟨R₁, g₁, Z₂, hl₁⟩ := LF.adoptL (α := Nat) (P := isN) (xs := [a1, a2, a3, a4, a5]) monoN Z Z₁ (get_size_none _) ⟨_, Heap.get?_push_size _ rfl⟩ ⟨⟨_, rfl⟩, ⟨_, rfl⟩, ⟨_, rfl⟩, ⟨_, rfl⟩, ⟨_, rfl⟩, trivial⟩
  refine hNo ?_
  clear hNo
  exact h R₁ _ _ g₁ Z₂ hl₁

set_option maxHeartbeats 1000000 in
/-- if left -/
theorem st7 {left : Bool} (Z : LF s₀ R L m s c1 c2) {v : Value} {x y z : List Nat} {rest : List (List Nat)} (hm : m "parts" = some v) (hleft : m "left" = some (.bool left)) (hv : IsLst isS R v (x :: y :: z :: rest)) (hx : x.length ≤ 5) (hy : y.length ≤ 5) (hz : z.length ≤ 5) {Q : Flow → Shared → Prop}
    (h : ∀ R' s' v t, Grow R R' s₀.heap → LF s₀ R' L (upd (upd m "text" (.str ⟨(coreP left x y z).toArray⟩ t)) "weights" v) s' c1 c2 → IsLst isN R' v (weightsP left) → Q .next s') :
    wpAny (model prog w) A (exec (ls 7) (e21 L a cd)) Q NoE s := by
  refine wpAny_If (isTrue_plain (nmL Z.F hleft (wpAny_truthy_bool ?_)))
  cases left with
  | true =>
    show wpAny _ _ (execs _ _) _ _ _
    refine wpAny_execs_cons ?_
    refine wpAny_Assign_Name ?_
    refine EvS.run (cs := [40, 40] ++ x ++ y ++ [41] ++ z ++ [41]) ?_ Z fun t tk => ?_
    · refine EvS.add (EvS.add (EvS.add (EvS.add (EvS.add (EvS.lit rfl) (EvS.part (i := 0) hm hv rfl (by omega)) ?_) (EvS.part (i := 1) hm hv rfl (by omega)) ?_) (EvS.lit rfl) ?_) (EvS.part (i := 2) hm hv rfl (by omega)) ?_) (EvS.lit rfl) ?_ <;> simp <;> omega
    refine (Z.tok (tk := tk)).st fun s₁ Z₁ => ?_
    refine wpAny_execs_cons ?_
    refine wpAny_Assign_Name ?_
    refine five (a1 := 4) (a2 := 4) (a3 := 2) (a4 := 2) (a5 := 2) Z₁ fun R₂ s₂ v₂ g₂ Z₂ hl₂ => ?_
    refine Z₂.st fun s₃ Z₃ => ?_
    exact wpAny_execs_nil (h R₂ s₃ v₂ t g₂ Z₃ hl₂)
  | false =>
    show wpAny _ _ (execs _ _) _ _ _
    refine wpAny_execs_cons ?_
    refine wpAny_Assign_Name ?_
    refine EvS.run (cs := [40] ++ x ++ [40] ++ y ++ z ++ [41, 41]) ?_ Z fun t tk => ?_
    · refine EvS.add (EvS.add (EvS.add (EvS.add (EvS.add (EvS.lit rfl) (EvS.part (i := 0) hm hv rfl (by omega)) ?_) (EvS.lit rfl) ?_) (EvS.part (i := 1) hm hv rfl (by omega)) ?_) (EvS.part (i := 2) hm hv rfl (by omega)) ?_) (EvS.lit rfl) ?_ <;> simp <;> omega
    refine (Z.tok (tk := tk)).st fun s₁ Z₁ => ?_
    refine wpAny_execs_cons ?_
    refine wpAny_Assign_Name ?_
    refine five (a1 := 2) (a2 := 4) (a3 := 4) (a4 := 2) (a5 := 2) Z₁ fun R₂ s₂ v₂ g₂ Z₂ hl₂ => ?_
    refine Z₂.st fun s₃ Z₃ => ?_
    exact wpAny_execs_nil (h R₂ s₃ v₂ t g₂ Z₃ hl₂)
end
end Mine
end
section
open PySem PySem.W PySem.Calls PyProof.Rows
set_option maxRecDepth 100000
set_option linter.unusedVariables false
set_option linter.unusedSimpArgs false
namespace Mine

noncomputable def es8 : List (Str × Pos) := [("ahead", ⟨150, 8, 150, 13⟩), ("sign", ⟨150, 15, 150, 19⟩), ("word", ⟨150, 21, 150, 25⟩), ("undone", ⟨150, 27, 150, 33⟩)]
noncomputable def b8 : List Stmt := forBody (ls 8)
section
variable {prog : Program} {w : World} {A : Around} {s s₀ : Shared} {R R' R₀ : Heap} {L a : Addr} {cd : Value} {m : Str → Option Value} {mg mb : Str → Option Value} {c1 c2 : Option Value}

theorem wrapP_len (cs : List Nat) (d : Dr) (h : d.ahead.length ≤ 3) : (wrapP cs d).length ≤ cs.length + 7 := by
  unfold wrapP unitP
  simp only [List.length_append]
  split <;> split <;> simp <;> omega
theorem wraps_len : ∀ (ds : List Dr) (cs : List Nat), (∀ d ∈ ds, d.ahead.length ≤ 3) → (ds.foldl wrapP cs).length ≤ cs.length + 7 * ds.length
  | [], cs, _ => by simp
  | d :: ds, cs, h => by
    have h1 := wraps_len ds (wrapP cs d) fun x hx => h x (by simp [hx])
    have h2 := wrapP_len cs d (h d (by simp))
    rw [List.foldl_cons, List.length_cons]; omega

/-- text = ahead + _law_unit(sign, undone) + text + _law_unit(sign, 1 - undone) -/
theorem b8_eval {X : List Addr} {d : Dr} {cs : List Nat} {t0 : Tok} {Q : Flow → Shared → Prop} (G : GE prog w mg mb R) (hA : AOk A 4) (F : Fm s₀ R X L m s) (hX : ∀ x ∈ X, (s.heap.get? x).isSome = true) (hB : drB m d) (ht : m "text" = some (.str ⟨cs.toArray⟩ t0)) (hc : cs.length ≤ 1000) (hd : d.ahead.length ≤ 3) (hu : d.und ≤ 1)
    (h : ∀ R' s' m' t, Grow R R' s.heap → Fm s₀ R' X L m' s' → KB [L] s.heap s'.heap → m' = upd m "text" (.str ⟨(wrapP cs d).toArray⟩ t) → Q .next s') :
    wpAny (model prog w) A (execs b8 (e21 L a cd)) Q NoE s := by
  refine wpAny_execs_cons ?_
  refine wpAny_Assign_Name ?_
  refine wpAny_BinOp ?_
  refine wpAny_BinOp ?_
  refine unitsCall G hA F hX hB hd hu (fun R₁ s₁ v₁ g₁ F₁ k₁ hv₁ => ?_) rfl rfl rfl rfl rfl rfl rfl
  refine nmL F₁ ht ?_
  obtain ⟨t1, rfl⟩ := hv₁
  have hpl : (partP d).length ≤ 5 := by unfold partP unitP; simp only [List.length_append]; split <;> simp <;> omega
  refine PyProof.Rows.add_str (fun t2 tk2 => ?_) (by rw [strLen, strLen, sizeLine_eq]; omega)
  rw [strApp]
  refine Classical.byContradiction fun hNo => ?_
  obtain ⟨u1, u2, u3, u4, e1, e2, e3, e4⟩ := hB
  refine hNo ?_
  clear hNo
  have F₂ := F₁.tok (tk := tk2)
  have GG := G.keeps g₁.sub
  refine callF F₂ GG.g (GG.fns 16 (by simp)) rfl ?_
  refine args_cons (nmL F₂ e2 ?_) rfl
  refine args_cons (wpAny_BinOp (wpAny_Constant_int (nmL F₂.tok e4 (PySem.P.sub_int ?_)))) rfl
  refine args_nil ⟨F₂.has, fun a' ha' => ?_⟩
  have F₃ := F₂.tok (tk := tk2 + 1 + 1)
  refine wpAny_mono (unit_spec (cs := [d.sign]) GG hA F₃.has a' ha' (by simp)) (fun v s₄ h₄ => ?_) fun _ _ q => q
  refine Classical.byContradiction fun hNo => ?_
  obtain ⟨st, R₄, g₄, S₄, t4, rfl⟩ := h₄
  refine hNo ?_
  clear hNo
  have hX₃ : ∀ x ∈ X, (s₁.heap.get? x).isSome = true := fun x hx => by
    obtain ⟨o, ho⟩ := Option.isSome_iff_exists.mp (hX x hx); rw [k₁ x o ho]; rfl
  have F₄ := F₃.call st g₄ S₄ hX₃
  refine PyProof.Rows.add_str (fun t5 tk5 => ?_) ?_
  · rw [strApp]
    refine stL F₄.tok fun s₆ F₆ M₆ => ?_
    refine wpAny_execs_nil (h R₄ s₆ _ t5 (g₁.trans g₄ k₁) F₆ ((KB.of_sub (k₁.trans st.sub)).trans M₆.kb) ?_)
    have e : partP d ++ cs ++ (if (1 - (d.und : Int)) = 1 then 92 :: [d.sign] else [d.sign]) = wrapP cs d := by
      unfold wrapP partP unitP
      rfl
    rw [← e]
  · rw [strLen, strLen, sizeLine_eq, List.length_append]
    split <;> simp <;> omega
end
end Mine
end
section
open PySem PySem.W PySem.Calls PyProof.Rows
set_option maxRecDepth 100000
set_option linter.unusedVariables false
set_option linter.unusedSimpArgs false
namespace Mine

section
variable {prog : Program} {w : World} {A : Around} {s s₀ : Shared} {R R' R₀ : Heap} {L a : Addr} {cd : Value} {m : Str → Option Value} {mg mb : Str → Option Value} {c1 c2 : Option Value}

section
variable {X : List Addr} {env : Env}
theorem loopUV {I : Addr} {fp wr : List Addr} {n : Nat} {Pt : Nat → Array Value → Prop} {St : Nat → Heap → Prop} {Mid : Nat → Addr → Heap → Prop} {xs : List (Str × Pos)} {k : Nat} {pos : Pos} {body : List Stmt} {Q : Flow → Shared → Prop}
    (W : WalksU prog w A I fp wr n Pt St Mid) (hh : A.handled = none) (F : Fm s₀ R X L m s) (hst : St 0 s.heap) (hwr : ∀ b ∈ wr, b ∈ X) (hLX : L ∉ X) (hLf : L ∉ fp)
    (hlen : ∀ i vals, Pt i vals → xs.length = vals.size) (hl : ∀ x ∈ xs, env.kindOf x.1 = some .local) (hk : env.scope.kind = .function) (hL : env.locals = L)
    (Y : List Addr) (hY : ∀ y ∈ Y, y ∉ fp) (J : Nat → (Str → Option Value) → Heap → Shared → Prop) (h0 : J 0 m R s)
    (hJ : ∀ i m R s s', J i m R s → Mv (L :: wr) s s' → J i m R s')
    (step : ∀ i vals m₁ R₁ s₁, i < n → Pt i vals → Grow R R₁ s₀.heap → J i m₁ R₁ s₁ → St (i + 1) s₁.heap → Fm s₀ R₁ X L (bindAll m₁ (xs.map (·.1)) vals.toList) s₁ →
      wpAny (model prog w) A (execs body env) (fun f s₂ => match f with
        | .next | .cont => ∃ m₂ R₂, Grow R₁ R₂ s₀.heap ∧ Fm s₀ R₂ X L m₂ s₂ ∧ J (i + 1) m₂ R₂ s₂ ∧ KB (L :: Y) s₁.heap s₂.heap
        | .brk => Q .next s₂
        | .ret v => Q (.ret v) s₂) NoE s₁)
    (done : ∀ m₁ R₁ s₁, Grow R R₁ s₀.heap → Fm s₀ R₁ X L m₁ s₁ → J n m₁ R₁ s₁ → Q .next s₁) :
    ∃ (Inv : Nat → Shared → Prop) (q : Nat), Inv q s ∧ ∀ q s, Inv q s → wpAny (model prog w) A (pyNext (.ref I)) (fun r s₁ => match r with
        | none => Q .next s₁
        | some v => wpAny (model prog w) A (letOwnedTupleGo (.Tuple (xs.map fun x => Expr.Name x.1 x.2) k pos) (.ref I) v) (fun _ s₁' => wpAny (model prog w) A (assign (.Tuple (xs.map fun x => Expr.Name x.1 x.2) k pos) env v) (fun _ s₂ => wpAny (model prog w) A (execs body env) (fun f s₃ => match f with
            | .next | .cont => ∃ m, m < q ∧ Inv m s₃
            | .brk => Q .next s₃
            | .ret v => Q (.ret v) s₃) NoE s₂) NoE s₁') NoE s₁) NoE s := by
  refine ⟨fun q s => ∃ i m₁ R₁, q + i = n ∧ Grow R R₁ s₀.heap ∧ Fm s₀ R₁ X L m₁ s ∧ St i s.heap ∧ J i m₁ R₁ s, n, ⟨0, m, R, rfl, Grow.refl _ _, F, hst, h0⟩, ?_⟩
  intro q s hJo
  refine Classical.byContradiction fun hNo => ?_
  obtain ⟨i, m₁, R₁, hq, G₁, F₁, hst₁, hJ₁⟩ := hJo
  refine hNo ?_
  clear hNo
  refine drawU W hh F₁ hst₁ (by omega) hwr hLX hLf hlen hl hk hL (fun hi s₂ F₂ M₂ => ?_) fun hi vals s₂ hP F₂ M₂ hst₂ => ?_
  · subst hi
    exact done m₁ R₁ s₂ G₁ F₂ (hJ _ _ _ _ _ hJ₁ (M₂.mono fun y hy => List.mem_cons_of_mem _ hy))
  · refine wpAny_mono (step i vals m₁ R₁ s₂ hi hP G₁ (hJ _ _ _ _ _ hJ₁ M₂) hst₂ F₂) (fun f s₃ h₃ => ?_) fun _ _ q => q
    have fin : (∃ m₂ R₂, Grow R₁ R₂ s₀.heap ∧ Fm s₀ R₂ X L m₂ s₃ ∧ J (i + 1) m₂ R₂ s₃ ∧ KB (L :: Y) s₂.heap s₃.heap) → ∃ m, m < q ∧ ∃ i m₁ R₁, m + i = n ∧ Grow R R₁ s₀.heap ∧ Fm s₀ R₁ X L m₁ s₃ ∧ St i s₃.heap ∧ J i m₁ R₁ s₃ := by
      intro hJo
      refine Classical.byContradiction fun hNo => ?_
      obtain ⟨m₂, R₂, G₂, F₃, hJ₃, K₃⟩ := hJo
      refine hNo ?_
      clear hNo
      refine ⟨q - 1, by omega, i + 1, m₂, R₂, by omega, G₁.trans G₂ (Sub.refl _), F₃, W.frame _ _ _ hst₂ fun b hb o e => K₃ b o ?_ e, hJ₃⟩
      intro hm
      rcases List.mem_cons.mp hm with rfl | hm
      · exact hLf hb
      · exact hY b hm hb
    cases f <;> first | exact fin h₃ | exact h₃
end

noncomputable def ns8 : List Str := ["ahead", "sign", "word", "undone", "text"]
structure J8 (m0 : Str → Option Value) (L : Addr) (c1 c2 : Option Value) (cs : List Nat) (m : Str → Option Value) (s : Shared) : Prop where
  ag : Ag ns8 m0 m
  text : ∃ t, m "text" = some (.str ⟨cs.toArray⟩ t)
  k1 : s.heap.IsCell (L + 1) c1
  k2 : s.heap.IsCell (L + 2) c2

theorem bind4 (m : Str → Option Value) (v1 v2 v3 v4 : Value) : Ag ns8 m (bindAll m [("ahead" : Str), "sign", "word", "undone"] [v1, v2, v3, v4]) := by
  intro y hy
  simp only [ns8, List.mem_cons, List.not_mem_nil, or_false, not_or] at hy
  refine Classical.byContradiction fun hNo => ?_
  obtain ⟨h1, h2, h3, h4, h5⟩ := hy
  refine hNo ?_
  clear hNo
  show (if y = "undone" then some v4 else if y = "word" then some v3 else if y = "sign" then some v2 else if y = "ahead" then some v1 else m y) = m y
  rw [if_neg h4, if_neg h3, if_neg h2, if_neg h1]

set_option maxHeartbeats 2000000 in
/-- for ahead, sign, word, undone in letters[3:] -/
theorem st8 (G : GE prog w mg mb R₀) (hA : AOk A 4) (hR : Sub R₀ R) (Z : LF s₀ R L m s c1 c2) {v : Value} {ds : List Dr} {cs : List Nat} {t0 : Tok} (hm : m "letters" = some v) (hv : IsLst IsDr R v ds) (hn : ds.length ≤ 5) (hds : ∀ d ∈ ds, d.ahead.length ≤ 3 ∧ d.und ≤ 1)
    (ht : m "text" = some (.str ⟨cs.toArray⟩ t0)) (hc : cs.length ≤ 100) {Q : Flow → Shared → Prop}
    (h : ∀ R' s' m' t, Grow R R' s₀.heap → LF s₀ R' L m' s' c1 c2 → Ag ns8 m m' → m' "text" = some (.str ⟨((ds.drop 3).foldl wrapP cs).toArray⟩ t) → Q .next s') :
    wpAny (model prog w) A (exec (ls 8) (e21 L a cd)) Q NoE s := by
  refine wpFor ?_ (fun _ => rfl)
  refine LF.slice (s₀ := s₀) (L := L) (m := m) (P := IsDr) (c1 := c1) (c2 := c2) monoDr ?_
  refine nmL Z.F hm ?_
  refine evalPart_some_step ?_
  refine wpAny_Constant_int ?_
  refine evalPart_none_step ?_
  refine ⟨R, some 3, none, ds, Z.tok, hv, by omega, .int _ _, .none, fun R₁ s₁ v₁ g₁ Z₁ hl₁ => ?_⟩
  rw [show (some (3 : Int)) = some ((3 : Nat) : Int) from rfl, cut_from] at hl₁
  generalize hes : ds.drop 3 = es at hl₁ h
  have hesd : ∀ d ∈ es, d ∈ ds := fun d hd => List.mem_of_mem_drop (hes ▸ hd)
  have hesn : es.length ≤ 2 := by rw [← hes, List.length_drop]; omega
  refine Classical.byContradiction fun hNo => ?_
  obtain ⟨B, vs, rfl, hB, hall⟩ := hl₁
  refine hNo ?_
  clear hNo
  have hlen := hall.length
  have F := Z₁.F
  refine wpAny_pyIter_list (hB.at fun o e => F.has _ o e).isList ?_
  have F₁ := F.new (tk := s₁.toks) { cls := .type "list_iterator", data := .fields #[.ref B, .int 0 0] }
  have hIt : (s₁.heap.push { cls := .type "list_iterator", data := .fields #[.ref B, .int 0 0] }).IsListIter s₁.heap.objs.size B 0 := ⟨_, Heap.get?_push_size _ rfl, rfl, rfl⟩
  have K₁ : Sub s₁.heap (s₁.heap.push { cls := .type "list_iterator", data := .fields #[.ref B, .int 0 0] }) := sub_push _ _
  have hsI := get_size_none s₁.heap
  have hLI : L ≠ s₁.heap.objs.size := Nat.ne_of_lt F.lt
  have hc1I : L + 1 ≠ s₁.heap.objs.size := fun e => by have := Z₁.live (L + 1) (by simp); rw [e, hsI] at this; cases this
  have hc2I : L + 2 ≠ s₁.heap.objs.size := fun e => by have := Z₁.live (L + 2) (by simp); rw [e, hsI] at this; cases this
  generalize s₁.heap.push { cls := .type "list_iterator", data := .fields #[.ref B, .int 0 0] } = H1 at F₁ hIt K₁ ⊢
  generalize hIdef : s₁.heap.objs.size = I at F₁ hIt hsI hLI hc1I hc2I ⊢
  have hIR := (F₁.out I (by simp)).1
  have hLR := (F₁.out L (by simp)).1
  have W := walksR (prog := prog) (w := w) (A := A) hA.hh I B hB.isList hIR (Vals := fun i xs => ∃ d t1 t2 t3 t4, es[i]? = some d ∧ xs = #[.str ⟨d.ahead.toArray⟩ t1, .str ⟨#[d.sign]⟩ t2, .str ⟨d.word.toArray⟩ t3, .int (d.und : Int) t4]) fun i hi => by
    refine Classical.byContradiction fun hNo => ?_
    obtain ⟨d, hd, T, t1, t2, t3, t4, e, hT⟩ := hall.get (List.getElem?_eq_getElem (by simpa using hi))
    refine hNo ?_
    clear hNo
    exact ⟨T, _, by simpa using (List.getElem?_eq_getElem (by simpa using hi)).trans (congrArg some e), hT, d, t1, t2, t3, t4, hd, rfl⟩
  have hbody : ∀ (J : Unit), forBody (ls 8) = b8 := fun _ => rfl
  refine loopUV (k := 0) (xs := es8) (body := b8) W hA.hh F₁ ⟨hIt, F₁.has⟩ (by simp) (by simp [hLI]) (by simp only [List.mem_cons, not_or]; exact ⟨hLI, notin_dom hLR⟩)
    (by rintro i vals ⟨d, t1, t2, t3, t4, _, rfl⟩; rfl) (by simp only [es8, List.mem_cons, List.not_mem_nil, or_false]; rintro x (rfl | rfl | rfl | rfl) <;> rfl) rfl rfl [] (by simp)
    (fun i m' R' s' => J8 m L c1 c2 ((es.take i).foldl wrapP cs) m' s') ⟨Ag.refl _ _, ⟨t0, ht⟩, isCell_kb (Y := []) Z₁.k1 (KB.of_sub K₁) (by simp), isCell_kb (Y := []) Z₁.k2 (KB.of_sub K₁) (by simp)⟩
    (fun i m R s s' q M => ⟨q.ag, q.text, isCell_kb q.k1 M.kb (by simp [hc1I]), isCell_kb q.k2 M.kb (by simp [hc2I])⟩)
    (fun i vals m₁ R₁' s₂ hi hP G₁ q hst F₂ => ?_) fun m₁ R₁' s₂ G₁ F₂ q => ?_
  · obtain ⟨d, t1, t2, t3, t4, hd, rfl⟩ := hP
    have hde : d ∈ es := List.mem_of_getElem? hd
    have hd1 := hds d (hesd d hde)
    obtain ⟨t, htx⟩ := q.text
    have hcl : ((es.take i).foldl wrapP cs).length ≤ 1000 := by
      have := wraps_len (es.take i) cs fun x hx => (hds x (hesd x (List.mem_of_mem_take hx))).1
      have h2 : (es.take i).length ≤ 2 := by rw [List.length_take]; omega
      omega
    have hliv : ∀ x ∈ I :: [L + 2, L + 1], (s₂.heap.get? x).isSome = true := fun x hx => by
      simp only [List.mem_cons, List.not_mem_nil, or_false] at hx
      rcases hx with rfl | rfl | rfl
      · obtain ⟨o, ho, _⟩ := hst.1; rw [ho]; rfl
      · exact isCell_live q.k2
      · exact isCell_live q.k1
    refine b8_eval (G.keeps (hR.trans (g₁.sub.trans G₁.sub))) hA F₂ hliv (d := d) (cs := (es.take i).foldl wrapP cs) (t0 := t) ⟨t1, t2, t3, t4, rfl, rfl, rfl, rfl⟩ htx hcl hd1.1 hd1.2 fun R₃ s₃ m₃ t' g₃ F₃ k₃ e₃ => ?_
    refine ⟨m₃, R₃, g₃.back F₂.step.sub, F₃, ⟨?_, ⟨t', ?_⟩, isCell_kb q.k1 k₃ (by simp), isCell_kb q.k2 k₃ (by simp)⟩, k₃⟩
    · rw [e₃]
      exact Ag.set (q.ag.trans (bind4 _ _ _ _ _)) (by simp [ns8]) _
    · have e : es.take (i + 1) = es.take i ++ [d] := by rw [List.take_add_one, hd]; rfl
      rw [e₃, e, List.foldl_append]
      rfl
  · have ho : es.take vs.size = es := List.take_of_length_le (by rw [Array.length_toList] at hlen; omega)
    obtain ⟨t, htx⟩ := q.text
    rw [ho] at htx
    exact h R₁' s₂ m₁ t (g₁.trans G₁ (Sub.refl _)) ⟨F₂.drop (fun y hy => List.mem_cons_of_mem _ hy), q.k1, q.k2⟩ q.ag htx
end
end Mine
end
section
open PySem PySem.W PySem.Calls PyProof.Rows
set_option maxRecDepth 100000
set_option linter.unusedVariables false
set_option linter.unusedSimpArgs false
namespace Mine

section
variable {prog : Program} {w : World} {A : Around} {s s₀ : Shared} {R R' R₀ : Heap} {L a : Addr} {cd : Value} {m : Str → Option Value} {mg mb : Str → Option Value} {c1 c2 : Option Value}

set_option maxHeartbeats 1000000 in
/-- if _check_parenthesis(text) is not True or .. -/
theorem st9 (G : GE prog w mg mb R₀) (hA : AOk A 16) (hR : Sub R₀ R) (Z : LF s₀ R L m s c1 c2) {cs : List Nat} {t0 : Tok} (ht : m "text" = some (.str ⟨cs.toArray⟩ t0)) (hc : cs.length ≤ 200) (h1 : checkPure cs = true) (h2 : checkPure ([41] ++ cs ++ [40]) = false) {Q : Flow → Shared → Prop}
    (h : ∀ R' s', Grow R R' s₀.heap → LF s₀ R' L m s' c1 c2 → Q .next s') :
    wpAny (model prog w) A (exec (ls 9) (e21 L a cd)) Q NoE s := by
  have GG := G.keeps hR
  refine wpAny_If ?_
  refine isTrue_or ?_
  refine wpAny_isTrue_Compare1 ?_
  refine callF Z.F GG.g (GG.fns 7 (by simp)) rfl ?_
  refine args_cons (nmL Z.F ht ?_) rfl
  refine args_nil ⟨Z.F.has, fun a' ha' => ?_⟩
  refine wpAny_mono (check_spec GG hA Z.F.has a' ha' (by omega)) (fun v s₁ h₁ => ?_) fun _ _ q => q
  refine Classical.byContradiction fun hNo => ?_
  obtain ⟨st₁, R₁, g₁, S₁, rfl⟩ := h₁
  refine hNo ?_
  clear hNo
  have Z₁ := Z.call st₁ g₁ S₁
  have G₁ := GG.keeps g₁.sub
  refine wpAny_Constant_bool ?_
  refine wpAny_isNot_plain rfl ?_
  refine wpAny_truthy_bool ?_
  rw [h1]
  rw [if_neg (by decide)]
  refine isTrue_or ?_
  refine wpAny_isTrue_Compare1 ?_
  refine callF Z₁.F G₁.g (G₁.fns 7 (by simp)) rfl ?_
  refine args_cons ?_ rfl
  refine wpAny_BinOp ?_
  refine wpAny_BinOp ?_
  refine wpAny_Constant_str ?_
  refine nmL Z₁.F.tok ht ?_
  refine PyProof.Rows.add_str (x := ⟨[41].toArray⟩) (fun t2 tk2 => ?_) ?_
  · rw [strApp]
    refine wpAny_Constant_str ?_
    refine PyProof.Rows.add_str (y := ⟨[40].toArray⟩) (fun t3 tk3 => ?_) ?_
    · rw [strApp]
      have Z₂ := Z₁.tok (tk := tk3)
      refine args_nil ⟨Z₂.F.has, fun a' ha' => ?_⟩
      refine wpAny_mono (check_spec G₁ hA Z₂.F.has a' ha' (by simp; omega)) (fun v s₃ h₃ => ?_) fun _ _ q => q
      refine Classical.byContradiction fun hNo => ?_
      obtain ⟨st₃, R₃, g₃, S₃, rfl⟩ := h₃
      refine hNo ?_
      clear hNo
      have Z₃ := Z₂.call st₃ g₃ S₃
      refine wpAny_Constant_bool ?_
      refine wpAny_isNot_plain rfl ?_
      refine wpAny_truthy_bool ?_
      rw [h2]
      rw [if_neg (by decide)]
      refine isTrue_or_nil ?_
      rw [if_neg (by decide)]
      exact wpAny_execs_nil (h R₃ s₃ ((g₁.back Z.F.step.sub).trans (g₃.back Z₂.F.step.sub) (Sub.refl _)) Z₃)
    · rw [strLen, strLen, sizeLine_eq]; simp; omega
  · rw [strLen, strLen, sizeLine_eq]; simp; omega

theorem itemT {value slice : Expr} {T : Addr} {items : Array Value} {j : Nat} {u : Tok} {x : Value} {Q : Value → Shared → Prop} (hT : s.heap.IsTuple T items) (hj : j < 1000) (hx : items[j]? = some x) (hi : seqIndex? (j : Int) items.size = some j) (h : Q x s)
    (hs : subscripted slice false (.ref T) (.int (j : Int) u) = operate [.ref T, .int (j : Int) u] (getItem (.ref T) (.int (j : Int) u))) :
    wpAny (model prog w) A (subscriptTail value slice (.ref T) (.int (j : Int) u)) Q NoE s := by
  refine subscriptTail_builtinR (x := x) (T := "tuple") (Heap.IsTuple.typeIs hT) PyProof.Rows.slot_tuple_getitem.lookup ?_ hs
  exact PyProof.Rows.getItem_tuple (items := items) (j := j) hT (by omega) (by omega) hi hx ⟨rfl, h⟩

/-- initial -/
theorem st13 (G : GE prog w mg mb R₀) (hA : AOk A 4) (hR : Sub R₀ R) {i : Nat} {ti : Tok} (hi : i < 4) (hc1 : c1 = some (.int (i : Int) ti)) (Z : LF s₀ R L m s c1 c2) {Q : Flow → Shared → Prop}
    (h : ∀ R' s' t, Grow R R' s₀.heap → LF s₀ R' L m s' c1 (some (.str ⟨(signP i 0).2.toArray⟩ t)) → Q .next s') :
    wpAny (model prog w) A (exec (ls 13) (e21 L a cd)) Q NoE s := by
  have GG := G.keeps hR
  refine wpAny_Assign_Name ?_
  refine Subscript_ ?_
  refine callF Z.F GG.g (GG.fns 14 (by simp)) rfl ?_
  refine args_cons (nmC (hc1 ▸ Z.k1) ?_ rfl rfl rfl rfl) rfl
  refine args_cons (wpAny_Constant_int ?_) rfl
  have Z₁ := Z.tok (tk := s.toks + 1)
  refine args_nil ⟨Z₁.F.has, fun a' ha' => ?_⟩
  refine wpAny_mono (sign_spec GG hA Z₁.F.has a' ha' hi (j := 0) (by decide)) (fun v s₂ h₂ => ?_) fun _ _ q => q
  refine Classical.byContradiction fun hNo => ?_
  obtain ⟨st, R₂, g₂, S₂, T, t1, t2, rfl, hT⟩ := h₂
  refine hNo ?_
  clear hNo
  have Z₂ := Z₁.call st g₂ S₂
  refine wpAny_Constant_int ?_
  have Z₃ := Z₂.tok (tk := s₂.toks + 1)
  refine itemT (j := 1) (isTuple_keeps hT Z₃.F.has) (by decide) rfl rfl ?_ rfl
  refine stC Z₃.F Z₃.k2 (by simp) (by simp) (fun s' F' k M => h R₂ s' t2 (g₂.back Z₁.F.step.sub) ⟨F', isCell_kb Z₃.k1 M.kb (by simp), k⟩) ?_ ?_ ?_
  · rfl
  · rfl
  · rfl

noncomputable abbrev isLT : Heap → Value → Nat × Int → Prop := fun h v p => IsLT h v p
theorem monoLT : MonoP isLT := fun _ _ _ _ k x => let ⟨T, a, b, e, h⟩ := x; ⟨T, a, b, e, isTuple_keeps h k⟩

/-- run = [] -/
theorem st11 (Z : LF s₀ R L m s c1 c2) {Q : Flow → Shared → Prop} (h : ∀ R' s' v, Grow R R' s₀.heap → LF s₀ R' L (upd m "run" v) s' c1 c2 → IsLst isLT R' v [] → Q .next s') :
    wpAny (model prog w) A (exec (ls 11) (e21 L a cd)) Q NoE s := by
  refine wpAny_Assign_Name ?_
  refine wpAny_List ?_
  refine args_nil ⟨Nat.zero_le _, ?_⟩
  have Z₁ := Z.push (tk := s.toks) { cls := .type "list", data := .seq ([] : List Value).toArray }
  refine Classical.byContradiction fun hNo => ?_
  obtain ⟨R₁, g₁, Z₂, hl₁⟩ := LF.adoptL (α := Nat × Int) (P := isLT) (xs := []) (vs := ([] : List Value).toArray) monoLT Z Z₁ (get_size_none _) ⟨_, Heap.get?_push_size _ rfl⟩ trivial
  refine hNo ?_
  clear hNo
  exact Z₂.st fun s' Z' => h R₁ s' _ g₁ Z' hl₁

theorem addF {X : List Addr} {α : Type} {P : Heap → Value → α → Prop} (hP : MonoP P) {v₁ v₂ : Value} {xs ys : List α} {Q : Value → Shared → Prop} (F : Fm s₀ R X L m s) (hX : ∀ x ∈ X, (s.heap.get? x).isSome = true) (h₁ : IsLst P R v₁ xs) (h₂ : IsLst P R v₂ ys) (hn : xs.length + ys.length ≤ 100000)
    (h : ∀ R' s' v, Grow R R' s₀.heap → Fm s₀ R' X L m s' → Sub s.heap s'.heap → IsLst P R' v (xs ++ ys) → Q v s') :
    wpAny (model prog w) A (binaryOp .Add v₁ v₂) Q NoE s := by
  refine Classical.byContradiction fun hNo => ?_
  obtain ⟨D₁, vs₁, rfl, ⟨n₁, p₁⟩, a₁⟩ := h₁
  obtain ⟨D₂, vs₂, rfl, ⟨n₂, p₂⟩, a₂⟩ := h₂
  refine hNo ?_
  clear hNo
  have l₁ := a₁.length; have l₂ := a₂.length
  rw [Array.length_toList] at l₁ l₂
  refine PySem.P.add_list (F.has _ _ p₁) (F.has _ _ p₂) ?_ (by rw [sizeLine_eq]; omega)
  have F₁ := F.push (tk := s.toks) { cls := .type "list", data := .seq (vs₁ ++ vs₂) }
  have hz := get_size_none s.heap
  obtain ⟨R', g, F₂, hl⟩ := F₁.adopt (B := s.heap.objs.size) (Heap.get?_push_size _ rfl) (F.none_of hz).2 (fun hm => by
    rcases List.mem_cons.mp hm with e | hm
    · exact Nat.ne_of_lt F.lt e.symm
    · have := hX _ hm; rw [hz] at this; cases this)
  refine h R' _ _ g F₂ (sub_push _ _) ⟨_, _, rfl, ⟨_, hl⟩, ?_⟩
  rw [Array.toList_append]
  exact (All2.mono (fun _ _ y => hP _ _ _ _ g.sub y) a₁).append (All2.mono (fun _ _ y => hP _ _ _ _ g.sub y) a₂)

noncomputable def b12 : List Stmt := forBody (ls 12)
structure J12 (m0 : Str → Option Value) (L : Addr) (c1 c2 : Option Value) (r : Run) (m : Str → Option Value) (R : Heap) (s : Shared) : Prop where
  ag : Ag [("item" : Str), "run"] m0 m
  run : ∃ v, m "run" = some v ∧ IsLst isLT R v r
  k1 : s.heap.IsCell (L + 1) c1
  k2 : s.heap.IsCell (L + 2) c2

set_option maxHeartbeats 2000000 in
/-- for item in _law_items(units): run = run + item -/
theorem st12 (G : GE prog w mg mb R₀) (hA : AOk A 32) (hR : Sub R₀ R) {i : Nat} (hi : i < 4) (Z : LF s₀ R L m s c1 c2) {uv rv : Value} {us : List (List Nat)} {out : List Run} (hm : m "units" = some uv) (hus : IsUnits R uv us) (hul : us.length ≤ 100) (hul2 : ∀ u ∈ us, u ≠ [] ∧ u.length ≤ 2)
    (hI : Items i 2 us out) (hfl : out.flatten.length ≤ 200) (hrun : m "run" = some rv) (hr0 : IsLst isLT R rv []) {Q : Flow → Shared → Prop}
    (h : ∀ R' s' m' v, Grow R R' s₀.heap → LF s₀ R' L m' s' c1 c2 → Ag [("item" : Str), "run"] m m' → m' "run" = some v → IsLst isLT R' v out.flatten → Q .next s') :
    wpAny (model prog w) A (exec (ls 12) (e21 L a cd)) Q NoE s := by
  have GG := G.keeps hR
  refine wpFor ?_ (fun _ => rfl)
  refine callF Z.F GG.g (GG.fns 18 (by simp)) rfl ?_
  refine args_cons (nmL Z.F hm ?_) rfl
  refine args_nil ⟨Z.F.has, fun a' ha' => ?_⟩
  refine wpAny_mono (items_spec i hi 2 us out uv a' hI GG hA Z.F.has ha' hus hul hul2) (fun v s₁ h₁ => ?_) fun _ _ q => q
  refine Classical.byContradiction fun hNo => ?_
  obtain ⟨st, R₁, g₁, S₁, B, vs, rfl, hB, hall⟩ := h₁
  refine hNo ?_
  clear hNo
  have Z₁ := Z.call st g₁ S₁
  have F := Z₁.F
  have hlen := hall.length
  refine wpAny_pyIter_list (hB.at fun o e => F.has _ o e).isList ?_
  have F₁ := F.new (tk := s₁.toks) { cls := .type "list_iterator", data := .fields #[.ref B, .int 0 0] }
  have hIt : (s₁.heap.push { cls := .type "list_iterator", data := .fields #[.ref B, .int 0 0] }).IsListIter s₁.heap.objs.size B 0 := ⟨_, Heap.get?_push_size _ rfl, rfl, rfl⟩
  have K₁ : Sub s₁.heap (s₁.heap.push { cls := .type "list_iterator", data := .fields #[.ref B, .int 0 0] }) := sub_push _ _
  have hsI := get_size_none s₁.heap
  have hLI : L ≠ s₁.heap.objs.size := Nat.ne_of_lt F.lt
  have hc1I : L + 1 ≠ s₁.heap.objs.size := fun e => by have := Z₁.live (L + 1) (by simp); rw [e, hsI] at this; cases this
  have hc2I : L + 2 ≠ s₁.heap.objs.size := fun e => by have := Z₁.live (L + 2) (by simp); rw [e, hsI] at this; cases this
  generalize s₁.heap.push { cls := .type "list_iterator", data := .fields #[.ref B, .int 0 0] } = H1 at F₁ hIt K₁ ⊢
  generalize hIdef : s₁.heap.objs.size = I at F₁ hIt hsI hLI hc1I hc2I ⊢
  obtain ⟨nB, hoB⟩ := id hB
  have hBI : B ≠ I := F₁.ne hoB (by simp)
  have hLB : L ≠ B := fun e => by have := (F₁.out L (by simp)).1; rw [e, hoB] at this; cases this
  refine loopV (x := "item") (body := b12) (Walks.list hA.hh I B hBI vs) F₁ ⟨hIt, (hB.at fun o e => F₁.has _ o e).isList⟩ (by simp) (by simp [hLI]) (by simp [hLI, hLB]) rfl rfl rfl [] (by simp)
    (fun k m' R' s' => J12 m L c1 c2 (out.take k).flatten m' R' s') ⟨Ag.refl _ _, ⟨rv, hrun, hr0.keeps monoLT g₁.sub⟩, isCell_kb (Y := []) Z₁.k1 (KB.of_sub K₁) (by simp), isCell_kb (Y := []) Z₁.k2 (KB.of_sub K₁) (by simp)⟩
    (fun i m R s s' q M => ⟨q.ag, q.run, isCell_kb q.k1 M.kb (by simp [hc1I]), isCell_kb q.k2 M.kb (by simp [hc2I])⟩)
    (fun k v m₁ R₂ s₂ hk hP G₁ q hst F₂ => ?_) fun m₁ R₂ s₂ G₁ F₂ q => ?_
  · obtain ⟨r, hr, hrv⟩ := hall.get (show vs.toList[k]? = some v by simpa using hP)
    refine Classical.byContradiction fun hNo => ?_
    obtain ⟨vv, hvv, hl⟩ := q.run
    refine hNo ?_
    clear hNo
    have hrl : (out.take (k + 1)).flatten = (out.take k).flatten ++ r := by rw [List.take_add_one, hr]; simp
    have htl : ((out.take k).flatten ++ r).length ≤ 200 := by
      rw [← hrl]
      have e := congrArg List.length (congrArg List.flatten (List.take_append_drop (k + 1) out))
      rw [List.flatten_append, List.length_append] at e
      omega
    rw [List.length_append] at htl
    have hl' := hl
    refine wpAny_execs_cons ?_
    refine wpAny_Assign_Name ?_
    refine wpAny_BinOp ?_
    refine nmL F₂ (show _ = some vv from hvv) ?_
    refine nmL F₂ rfl ?_
    have hliv : ∀ x ∈ I :: [L + 2, L + 1], (s₂.heap.get? x).isSome = true := fun x hx => by
      simp only [List.mem_cons, List.not_mem_nil, or_false] at hx
      rcases hx with rfl | rfl | rfl
      · obtain ⟨o, ho, _⟩ := hst.1; rw [ho]; rfl
      · exact isCell_live q.k2
      · exact isCell_live q.k1
    have hrv' : IsLst isLT R₂ v r := IsLst.keeps monoLT hrv G₁.sub
    refine addF monoLT F₂ hliv hl hrv' (by omega) fun R₃ s₃ v₃ g₃ F₃ k₃ hl₃ => ?_
    refine stL F₃ fun s₄ F₄ M₄ => ?_
    refine wpAny_execs_nil ⟨_, R₃, g₃, F₄, ⟨?_, ⟨v₃, rfl, ?_⟩, isCell_kb q.k1 ((KB.of_sub k₃).trans M₄.kb) (by simp), isCell_kb q.k2 ((KB.of_sub k₃).trans M₄.kb) (by simp)⟩, (KB.of_sub k₃).trans M₄.kb⟩
    · exact Ag.set (Ag.set q.ag (by simp) _) (by simp) _
    · rw [hrl]; exact hl₃
  · have ho : out.take vs.size = out := List.take_of_length_le (by rw [Array.length_toList] at hlen; omega)
    refine Classical.byContradiction fun hNo => ?_
    obtain ⟨v, hv, hl⟩ := q.run
    refine hNo ?_
    clear hNo
    rw [ho] at hl
    exact h R₂ s₂ m₁ v ((g₁.back Z.F.step.sub).trans G₁ (Sub.refl _)) ⟨F₂.drop (fun y hy => List.mem_cons_of_mem _ hy), q.k1, q.k2⟩ q.ag hv hl
end
end Mine
end
section
open PySem PySem.W PySem.Calls PyProof.Rows
set_option maxRecDepth 100000
set_option linter.unusedVariables false
set_option linter.unusedSimpArgs false
namespace Mine

section
variable {prog : Program} {w : World} {A : Around} {s s₀ : Shared} {R R' R₀ : Heap} {L a : Addr} {cd : Value} {m : Str → Option Value} {mg mb : Str → Option Value} {c1 c2 : Option Value}

set_option maxHeartbeats 2000000 in
/-- units -/
theorem st10 (G : GE prog w mg mb R₀) (hA : AOk A 12) (hR : Sub R₀ R) (Z : LF s₀ R L m s c1 c2) {cs : List Nat} {t0 : Tok} (ht : m "text" = some (.str ⟨cs.toArray⟩ t0)) (hc : cs.length ≤ 200) (hsl : (stripPure cs).length ≤ 900) {Q : Flow → Shared → Prop}
    (h : ∀ R' s' v, Grow R R' s₀.heap → LF s₀ R' L (upd m "units" v) s' c1 c2 → IsUnits R' v (unitsP cs) → Q .next s') :
    wpAny (model prog w) A (exec (ls 10) (e21 L a cd)) Q NoE s := by
  have GG := G.keeps hR
  refine assignL (cl := []) ?_ rfl (by decide) rfl (by decide) ?_ (fun _ => rfl)
  · rfl
  refine callF Z.F GG.g (GG.fns 5 (by simp)) rfl ?_
  refine args_cons ?_ rfl
  refine callF Z.F GG.g (GG.fns 6 (by simp)) rfl ?_
  refine args_cons (nmL Z.F ht ?_) rfl
  refine args_nil ⟨Z.F.has, fun a' ha' => ?_⟩
  refine wpAny_mono (strip_spec GG hA Z.F.has a' ha' (by omega)) (fun v s₁ h₁ => ?_) fun _ _ q => q
  refine Classical.byContradiction fun hNo => ?_
  obtain ⟨st, R₁, g₁, S₁, tv, rfl⟩ := h₁
  refine hNo ?_
  clear hNo
  have Z₁ := Z.call st g₁ S₁
  have G₁ := GG.keeps g₁.sub
  refine args_nil ⟨Z.F.has.trans st.sub, fun a₂ ha₂ => ?_⟩
  refine wpAny_mono (iter_spec G₁ (hA.le (by omega)) Z₁.F.has a₂ ha₂) (fun v s₂ h₂ => ?_) fun _ _ q => q
  refine Classical.byContradiction fun hNo => ?_
  obtain ⟨b, Cg, gg, rfl, N⟩ := h₂
  refine hNo ?_
  clear hNo
  refine genComp (x1 := "spot") (x2 := "unit") (hA.le (by omega)) G₁ Z₁.F Z₁.live (by simp) N (by simpa using hsl) (fun _ => rfl) (fun _ => rfl) rfl rfl ?_
  intro B C mc s' Fc hLC hLB hBC hBX hns mk hkp
  have hpx : ∀ y : Addr, (decide (y = L + 1 ∨ y = L + 2)) = true → y ∈ [L + 2, L + 1] := fun y hy => by
    have := of_decide_eq_true hy
    rcases this with e | e <;> simp [e]
  have notNs : ∀ {y : Addr} {cv : Option Value}, y ∈ [L + 2, L + 1] → s₁.heap.IsCell y cv → y ≠ C := fun {y cv} hy hc e => by
    refine Classical.byContradiction fun hNo => ?_
    obtain ⟨o, ho, hd⟩ := hc
    obtain ⟨o', es, ep, ho', hd', _⟩ := Fc.ns
    refine hNo ?_
    clear hNo
    have := hkp y hy o ho
    rw [e, ho'] at this
    cases this
    rw [hd] at hd'
    cases hd'
  have hCc : C ∉ [L + 2, L + 1] := fun hm => by
    simp only [List.mem_cons, List.not_mem_nil, or_false] at hm
    rcases hm with e | e
    · exact notNs (y := L + 2) (by simp) Z₁.k2 e.symm
    · exact notNs (y := L + 1) (by simp) Z₁.k1 e.symm
  refine listDoneA (s := { s₁ with heap := only (fun y => decide (y = L + 1 ∨ y = L + 2)) s₁.heap }) (P := fun _ v c => strV c v) (X := [L + 2, L + 1]) (fun _ _ _ _ _ q => q) (Grow.refl _ _) Fc (fun _ h => h) (by simp) hLC hLB hBC hBX hns mk ?_ ?_ rfl rfl rfl fun R₂ s₃ vs g₂ F₂ hp₂ al₂ k₂ => ?_
  · intro y o e
    rw [only_get] at e
    split at e
    · rename_i hy
      exact hkp y (hpx y hy) o e
    · cases e
  · rw [only_get, if_neg]
    intro hy
    exact hCc (hpx C hy)
  · have kc : ∀ y ∈ [L + 2, L + 1], ∀ o, s₁.heap.get? y = some o → s₃.heap.get? y = some o := fun y hy o e => by
      refine k₂ y o ?_ ?_
      · simp only [List.mem_cons, List.not_mem_nil, or_false] at hy
        rcases hy with rfl | rfl <;> simp
      · rw [only_get, if_pos]
        · exact e
        · simp only [List.mem_cons, List.not_mem_nil, or_false] at hy
          rcases hy with rfl | rfl <;> simp
    refine h R₂ s₃ (.ref B) ((g₁.back Z.F.step.sub).trans g₂ (Sub.refl _)) ⟨F₂, ?_, ?_⟩ ⟨B, vs, rfl, hp₂, ?_⟩
    · obtain ⟨o, ho, r⟩ := Z₁.k1; exact ⟨o, kc _ (by simp) o ho, r⟩
    · obtain ⟨o, ho, r⟩ := Z₁.k2; exact ⟨o, kc _ (by simp) o ho, r⟩
    · exact al₂
end
end Mine
end
section
open PySem PySem.W PySem.Calls PyProof.Rows
set_option maxRecDepth 100000
set_option linter.unusedVariables false
set_option linter.unusedSimpArgs false
namespace Mine

section
variable {prog : Program} {w : World} {A : Around} {s s₀ sb : Shared} {env : Env} {R R₀ : Heap} {X pv : List Addr} {L : Addr} {m : Str → Option Value} {mg mb : Str → Option Value}

/-- where a comprehension's iterator stands -/
structure ItReady (s₀ sb s : Shared) (R : Heap) (X pv fp wr : List Addr) (L : Addr) (m : Str → Option Value) : Prop where
  F : Fm s₀ R (pv ++ X) L m s
  hwr : ∀ b ∈ wr, b ∈ pv
  hpv : ∀ y ∈ pv, (s.heap.get? y).isSome = true
  hX : ∀ y ∈ X, (sb.heap.get? y).isSome = true
  hfp : ∀ y ∈ fp, (s.heap.get? y).isSome = true
  sub : Sub sb.heap s.heap
  hpb : ∀ y ∈ pv, sb.heap.get? y = none
  hLX : L ∉ pv ++ X
  hLf : L ∉ fp

set_option maxHeartbeats 1000000 in
/-- [elt for a, b in .. if ..], over an iterator that makes tuples -/
theorem loopsU {α β : Type} {I : Addr} {fp wr : List Addr} {Pt : Nat → Array Value → Prop} {St : Nat → Heap → Prop} {Mid : Nat → Addr → Heap → Prop} {ns : List (Str × Pos)} {kt : Nat} {tp : Pos} {V : α → Array Value → Prop} {Bind : (Str → Option Value) → α → Prop} {ifs : List Expr} {elt : Expr} {scope : Scope} {cl : List (Str × Addr)} {xs : List α} {P : Heap → Value → β → Prop} {pz : α → Bool} {fy : α → β} {Done : Addr → Addr → Shared → Prop}
    (hh : A.handled = none) (W : WalksU prog w A I fp wr xs.length Pt St Mid) (T : ItReady s₀ sb s R X pv fp wr L m) (hst : St 0 s.heap) (hSt : ∀ i h, St i h → ∀ y ∈ pv, (h.get? y).isSome = true)
    (hPt : ∀ i vals, Pt i vals → ∃ a, xs[i]? = some a ∧ V a vals) (hVl : ∀ a arr, V a arr → ns.length = arr.size) (hbind : ∀ m₁ a arr, V a arr → Bind (bindAll m₁ (ns.map (·.1)) arr.toList) a) (hn : xs.length ≤ 1000)
    (hP : ∀ R R' v b, Sub R R' → P R v b → P R' v b) (hkx : ∀ C, ∀ x ∈ ns, (compEnvC scope cl C env).kindOf x.1 = some .local) (hkind : scope.kind = .function)
    (EO : ElOk prog w A s₀ sb R (fun C => compEnvC scope cl C env) ifs elt Bind P pz fy xs)
    (hdone : ∀ B C mc R' s', Grow R R' s₀.heap → Fm s₀ R' (B :: L :: (pv ++ X)) C mc s' → L ≠ C → L ≠ B → B ≠ C → B ∉ pv ++ X → s'.heap.Ns L m → IsMaking P R' s'.heap B ((xs.filter pz).map fy) → Sub sb.heap s'.heap → sb.heap.get? C = none → Done B C s') :
    ∀ D C h₁, Begun D C s h₁ → h₁.PlainList D #[] →
      Loops prog w A (.Tuple (ns.map fun x => Expr.Name x.1 x.2) kt tp) ifs (.ref I) (compEnvC scope cl C env) (bodyL prog w A elt (.ref D) (compEnvC scope cl C env)) (Done D C) { s with heap := h₁ } := by
  intro B C h₁ Bg hB
  have Fc := T.F.into Bg
  have live₁ : ∀ y, (s.heap.get? y).isSome = true → y ≠ C ∧ y ≠ B := fun y hy => by
    obtain ⟨o, ho⟩ := Option.isSome_iff_exists.mp hy
    exact ⟨(by rintro rfl; rw [Bg.hC] at ho; cases ho), (by rintro rfl; rw [Bg.hD] at ho; cases ho)⟩
  have hLC := live₁ L (ns_live T.F.ns)
  have hXs : ∀ y ∈ X, (s.heap.get? y).isSome = true := fun y hy => by obtain ⟨o, ho⟩ := Option.isSome_iff_exists.mp (T.hX y hy); rw [T.sub y o ho]; rfl
  have hpX : ∀ y ∈ pv ++ X, (s.heap.get? y).isSome = true := fun y hy => (List.mem_append.mp hy).elim (T.hpv y) (hXs y)
  have hXC : ∀ y ∈ pv ++ X, y ≠ C ∧ y ≠ B := fun y hy => live₁ y (hpX y hy)
  have noS : ∀ y, s.heap.get? y = none → sb.heap.get? y = none := fun y hy => by
    cases e : sb.heap.get? y with
    | none => rfl
    | some o => rw [T.sub y o e] at hy; cases hy
  have hsC := noS C Bg.hC
  have hsB := noS B Bg.hD
  have hCf : C ∉ fp := fun hm => (live₁ C (T.hfp C hm)).1 rfl
  have hBf : B ∉ fp := fun hm => (live₁ B (T.hfp B hm)).2 rfl
  have hLpv : L ∉ pv := fun hm => T.hLX (List.mem_append_left _ hm)
  have hBpv : B ∉ pv := fun hm => (hXC B (List.mem_append_left _ hm)).2 rfl
  have hXX : C ∉ B :: L :: (pv ++ X) := by
    simp only [List.mem_cons, not_or]; exact ⟨Ne.symm Bg.ne, Ne.symm hLC.1, fun h => (hXC C h).1 rfl⟩
  have hBX : B ∉ pv ++ X := fun h => (hXC B h).2 rfl
  have hwpv : ∀ b ∈ C :: wr, b = C ∨ b ∈ pv := fun b hb => (List.mem_cons.mp hb).imp id (T.hwr b)
  refine turnsU (k := kt) (pos := tp) (xs := ns) monoL W hh Fc (W.frame 0 s.heap h₁ hst fun b hb o e => Bg.sub b o e) (fun b hb => by simp only [List.mem_cons, List.mem_append]; exact .inr (.inr (.inl (T.hwr b hb)))) hXX hCf (fun i arr q => let ⟨a, _, hV⟩ := hPt i arr q; hVl a arr hV) (hkx C) (by simp [compEnvC, relabel, hkind]) rfl [B] (by
      intro y hy
      obtain rfl := List.mem_singleton.mp hy
      exact hBf)
    (fun i R' s' => IsMaking P R' s'.heap B (((xs.take i).filter pz).map fy) ∧ s'.heap.Ns L m ∧ Sub sb.heap s'.heap) ⟨⟨[], hB, trivial⟩, T.F.ns.keeps Bg.sub, T.sub.trans Bg.sub⟩
    (fun i R' s s' q M => ⟨q.1.at (fun _ _ y => y) (M.at fun hm => (hwpv B hm).elim Bg.ne hBpv), q.2.1.at' (M.at fun hm => (hwpv L hm).elim hLC.1 hLpv), fun b o e => M.kb b o (fun hm => by
      rcases hwpv b hm with rfl | h
      · rw [hsC] at e; cases e
      · rw [T.hpb b h] at e; cases e) (q.2.2 b o e)⟩)
    (fun i v m₁ R₁ s₁ hi hv G₁ q hst F₂ => ?_) fun m₁ R₁ s₁ G₁ F₂ q => ?_
  · obtain ⟨mk, hns, hsub⟩ := q
    obtain ⟨a, ha, hV⟩ := hPt i v hv
    have hlive : ∀ y ∈ B :: L :: (pv ++ X), (s₁.heap.get? y).isSome = true := fun y hy => by
      simp only [List.mem_cons, List.mem_append] at hy
      rcases hy with rfl | rfl | hy | hy
      · exact making_live mk
      · exact ns_live hns
      · exact hSt _ _ hst y hy
      · obtain ⟨o, ho⟩ := Option.isSome_iff_exists.mp (T.hX y hy); rw [hsub y o ho]; rfl
    have htk := take_succ_of ha
    refine wpAny_mono (EO C a s₁ R₁ _ _ (List.mem_of_getElem? ha) G₁ F₂ hlive hXX hsub (hbind _ a v hV)) (fun ok s₂ q => ?_) fun _ _ q => q
    obtain ⟨rfl, ⟨tk, rfl⟩, he⟩ := q
    cases hz : pz a with
    | false =>
      rw [if_neg (by simp)]
      refine ⟨_, R₁, Grow.refl _ _, F₂.tok, ⟨?_, hns, hsub⟩, KB.refl _ _⟩
      rw [htk, List.filter_append]; simpa [hz] using mk
    | true =>
      rw [if_pos rfl]
      refine wpAny_mono (he hz) (fun y s₃ q => ?_) fun _ _ q => q
      obtain ⟨R₂, g₂, F₃, k₃, hy⟩ := q
      have hlm : (((xs.take i).filter pz).map fy).length ≤ 1000 := by
        rw [List.length_map]
        have h1 := List.length_filter_le pz (xs.take i)
        rw [List.length_take] at h1; omega
      refine IsMaking.app (P := P) (R := R₂) (l := ((xs.take i).filter pz).map fy) (a := fy a) (mk.at (fun _ _ y => hP _ _ _ _ g₂.sub y) fun o e => k₃ B o e) hy (by omega) fun h' hm hs' => ?_
      refine ⟨_, R₂, g₂, F₃.other (KB.of_same hs' (by simp)) hXX, ⟨?_, (hns.keeps k₃).at' fun o e => hs'.extBut L o hLC.2 e, fun b o e => hs'.extBut b o (fun q => by rw [q, hsB] at e; cases e) (k₃ b o (hsub b o e))⟩, (KB.of_sub k₃).trans (KB.of_same hs' (by simp))⟩
      rw [htk, List.filter_append]; simpa [hz] using hm
  · obtain ⟨mk, hns, hsub⟩ := q
    rw [List.take_of_length_le (Nat.le_refl _)] at mk
    exact hdone B C m₁ R₁ s₁ G₁ F₂ hLC.1 hLC.2 Bg.ne hBX hns mk hsub hsC

set_option maxHeartbeats 1000000 in
/-- [elt for x in .. if ..], over an iterator -/
theorem loopsW {α β : Type} {I : Addr} {fp wr : List Addr} {Pt : Nat → Value → Prop} {St : Nat → Heap → Prop} {x : Str} {px : Pos} {V : α → Value → Prop} {ifs : List Expr} {elt : Expr} {scope : Scope} {cl : List (Str × Addr)} {xs : List α} {P : Heap → Value → β → Prop} {pz : α → Bool} {fy : α → β} {Done : Addr → Addr → Shared → Prop}
    (hh : A.handled = none) (W : Walks prog w A I fp wr xs.length Pt St) (T : ItReady s₀ sb s R X pv fp wr L m) (hst : St 0 s.heap) (hSt : ∀ i h, St i h → ∀ y ∈ pv, (h.get? y).isSome = true)
    (hPt : ∀ i v, Pt i v → ∃ a, xs[i]? = some a ∧ V a v) (hn : xs.length ≤ 1000)
    (hP : ∀ R R' v b, Sub R R' → P R v b → P R' v b) (hkx : ∀ C, (compEnvC scope cl C env).kindOf x = some .local) (hkind : scope.kind = .function)
    (EO : ElOk prog w A s₀ sb R (fun C => compEnvC scope cl C env) ifs elt (fun mc a => ∃ v, mc x = some v ∧ V a v) P pz fy xs)
    (hdone : ∀ B C mc R' s', Grow R R' s₀.heap → Fm s₀ R' (B :: L :: (pv ++ X)) C mc s' → L ≠ C → L ≠ B → B ≠ C → B ∉ pv ++ X → s'.heap.Ns L m → IsMaking P R' s'.heap B ((xs.filter pz).map fy) → Sub sb.heap s'.heap → sb.heap.get? C = none → Done B C s') :
    ∀ D C h₁, Begun D C s h₁ → h₁.PlainList D #[] →
      Loops prog w A (.Name x px) ifs (.ref I) (compEnvC scope cl C env) (bodyL prog w A elt (.ref D) (compEnvC scope cl C env)) (Done D C) { s with heap := h₁ } := by
  intro B C h₁ Bg hB
  have Fc := T.F.into Bg
  have live₁ : ∀ y, (s.heap.get? y).isSome = true → y ≠ C ∧ y ≠ B := fun y hy => by
    obtain ⟨o, ho⟩ := Option.isSome_iff_exists.mp hy
    exact ⟨(by rintro rfl; rw [Bg.hC] at ho; cases ho), (by rintro rfl; rw [Bg.hD] at ho; cases ho)⟩
  have hLC := live₁ L (ns_live T.F.ns)
  have hXs : ∀ y ∈ X, (s.heap.get? y).isSome = true := fun y hy => by obtain ⟨o, ho⟩ := Option.isSome_iff_exists.mp (T.hX y hy); rw [T.sub y o ho]; rfl
  have hpX : ∀ y ∈ pv ++ X, (s.heap.get? y).isSome = true := fun y hy => (List.mem_append.mp hy).elim (T.hpv y) (hXs y)
  have hXC : ∀ y ∈ pv ++ X, y ≠ C ∧ y ≠ B := fun y hy => live₁ y (hpX y hy)
  have noS : ∀ y, s.heap.get? y = none → sb.heap.get? y = none := fun y hy => by
    cases e : sb.heap.get? y with
    | none => rfl
    | some o => rw [T.sub y o e] at hy; cases hy
  have hsC := noS C Bg.hC
  have hsB := noS B Bg.hD
  have hCf : C ∉ fp := fun hm => (live₁ C (T.hfp C hm)).1 rfl
  have hBf : B ∉ fp := fun hm => (live₁ B (T.hfp B hm)).2 rfl
  have hLpv : L ∉ pv := fun hm => T.hLX (List.mem_append_left _ hm)
  have hBpv : B ∉ pv := fun hm => (hXC B (List.mem_append_left _ hm)).2 rfl
  have hXX : C ∉ B :: L :: (pv ++ X) := by
    simp only [List.mem_cons, not_or]; exact ⟨Ne.symm Bg.ne, Ne.symm hLC.1, fun h => (hXC C h).1 rfl⟩
  have hBX : B ∉ pv ++ X := fun h => (hXC B h).2 rfl
  have hwpv : ∀ b ∈ C :: wr, b = C ∨ b ∈ pv := fun b hb => (List.mem_cons.mp hb).imp id (T.hwr b)
  refine turnsW (x := x) monoL W Fc (W.frame 0 s.heap h₁ hst fun b hb o e => Bg.sub b o e) (fun b hb => by simp only [List.mem_cons, List.mem_append]; exact .inr (.inr (.inl (T.hwr b hb)))) hXX hCf (hkx C) (by simp [compEnvC, relabel, hkind]) rfl [B] (by
      intro y hy
      obtain rfl := List.mem_singleton.mp hy
      exact hBf)
    (fun i R' s' => IsMaking P R' s'.heap B (((xs.take i).filter pz).map fy) ∧ s'.heap.Ns L m ∧ Sub sb.heap s'.heap) ⟨⟨[], hB, trivial⟩, T.F.ns.keeps Bg.sub, T.sub.trans Bg.sub⟩
    (fun i R' s s' q M => ⟨q.1.at (fun _ _ y => y) (M.at fun hm => (hwpv B hm).elim Bg.ne hBpv), q.2.1.at' (M.at fun hm => (hwpv L hm).elim hLC.1 hLpv), fun b o e => M.kb b o (fun hm => by
      rcases hwpv b hm with rfl | h
      · rw [hsC] at e; cases e
      · rw [T.hpb b h] at e; cases e) (q.2.2 b o e)⟩)
    (fun i v m₁ R₁ s₁ hi hv G₁ q hst F₂ => ?_) fun m₁ R₁ s₁ G₁ F₂ q => ?_
  · obtain ⟨mk, hns, hsub⟩ := q
    obtain ⟨a, ha, hV⟩ := hPt i v hv
    have hlive : ∀ y ∈ B :: L :: (pv ++ X), (s₁.heap.get? y).isSome = true := fun y hy => by
      simp only [List.mem_cons, List.mem_append] at hy
      rcases hy with rfl | rfl | hy | hy
      · exact making_live mk
      · exact ns_live hns
      · exact hSt _ _ hst y hy
      · obtain ⟨o, ho⟩ := Option.isSome_iff_exists.mp (T.hX y hy); rw [hsub y o ho]; rfl
    have htk := take_succ_of ha
    refine wpAny_mono (EO C a s₁ R₁ _ _ (List.mem_of_getElem? ha) G₁ F₂ hlive hXX hsub ⟨v, if_pos rfl, hV⟩) (fun ok s₂ q => ?_) fun _ _ q => q
    obtain ⟨rfl, ⟨tk, rfl⟩, he⟩ := q
    cases hz : pz a with
    | false =>
      rw [if_neg (by simp)]
      refine ⟨_, R₁, Grow.refl _ _, F₂.tok, ⟨?_, hns, hsub⟩, KB.refl _ _⟩
      rw [htk, List.filter_append]; simpa [hz] using mk
    | true =>
      rw [if_pos rfl]
      refine wpAny_mono (he hz) (fun y s₃ q => ?_) fun _ _ q => q
      obtain ⟨R₂, g₂, F₃, k₃, hy⟩ := q
      have hlm : (((xs.take i).filter pz).map fy).length ≤ 1000 := by
        rw [List.length_map]
        have h1 := List.length_filter_le pz (xs.take i)
        rw [List.length_take] at h1; omega
      refine IsMaking.app (P := P) (R := R₂) (l := ((xs.take i).filter pz).map fy) (a := fy a) (mk.at (fun _ _ y => hP _ _ _ _ g₂.sub y) fun o e => k₃ B o e) hy (by omega) fun h' hm hs' => ?_
      refine ⟨_, R₂, g₂, F₃.other (KB.of_same hs' (by simp)) hXX, ⟨?_, (hns.keeps k₃).at' fun o e => hs'.extBut L o hLC.2 e, fun b o e => hs'.extBut b o (fun q => by rw [q, hsB] at e; cases e) (k₃ b o (hsub b o e))⟩, (KB.of_sub k₃).trans (KB.of_same hs' (by simp))⟩
      rw [htk, List.filter_append]; simpa [hz] using hm
  · obtain ⟨mk, hns, hsub⟩ := q
    rw [List.take_of_length_le (Nat.le_refl _)] at mk
    exact hdone B C m₁ R₁ s₁ G₁ F₂ hLC.1 hLC.2 Bg.ne hBX hns mk hsub hsC
end
end Mine
end
section
open PySem PySem.W PySem.Calls PyProof.Rows
set_option maxRecDepth 100000
set_option linter.unusedVariables false
set_option linter.unusedSimpArgs false
namespace Mine

section
variable {prog : Program} {w : World} {A : Around} {s s₀ sb : Shared} {env : Env} {R R₀ : Heap} {X pv : List Addr} {L a : Addr} {cd : Value} {m : Str → Option Value} {mg mb : Str → Option Value} {c1 c2 : Option Value}

noncomputable abbrev zipSt (z TI TO i1 i2 l1 l2 : Addr) (xs ys : Array Value) (i : Nat) (h : Heap) : Prop :=
  IsZip h z TI TO .none ∧ IsPair h TI (.ref i1) (.ref i2) ∧ (∃ a b, IsPair h TO a b) ∧ h.IsListIter i1 l1 i ∧ h.IsListIter i2 l2 i ∧ h.IsList l1 xs ∧ h.IsList l2 ys

theorem zip_live {z TI TO i1 i2 l1 l2 : Addr} {xs ys : Array Value} {i : Nat} {h : Heap} (x : zipSt z TI TO i1 i2 l1 l2 xs ys i h) : ∀ y ∈ [z, TO, i1, i2, TI], (h.get? y).isSome = true := by
  refine Classical.byContradiction fun hNo => ?_
  obtain ⟨h1, h2, ⟨a, b, h3⟩, ⟨o4, h4, _⟩, ⟨o5, h5, _⟩, h6, h7⟩ := x
  refine hNo ?_
  clear hNo
  intro y hy
  simp only [List.mem_cons, List.not_mem_nil, or_false] at hy
  rcases hy with rfl | rfl | rfl | rfl | rfl
  · rw [h1]; rfl
  · rw [h3]; rfl
  · rw [h4]; rfl
  · rw [h5]; rfl
  · rw [h2]; rfl

theorem zipReady (F : Fm s₀ R X L m s) (hX : ∀ y ∈ X, (s.heap.get? y).isSome = true) (hLX : L ∉ X) {l1 l2 : Addr} {xs ys : Array Value} (hl1 : R.PlainList l1 xs) (hl2 : R.PlainList l2 ys) {Q : Value → Shared → Prop}
    (h : ∀ s₁ z TI TO i1 i2, ZipApart z TI TO i1 i2 l1 l2 → ItReady s₀ s s₁ R X [z, TO, i1, i2, TI] [z, TI, TO, i1, i2, l1, l2] [z, TO, i1, i2] L m → zipSt z TI TO i1 i2 l1 l2 xs ys 0 s₁.heap → Q (.ref z) s₁) :
    wpAny (model prog w) A (call (.type "zip") [.ref l1, .ref l2]) Q NoE s := by
  have p1 := hl1.at (h' := s.heap) fun o e => F.has _ o e
  have p2 := hl2.at (h' := s.heap) fun o e => F.has _ o e
  refine Classical.byContradiction fun hNo => ?_
  obtain ⟨n1, hp1⟩ := id p1
  obtain ⟨n2, hp2⟩ := id p2
  refine hNo ?_
  clear hNo
  have a1 := Heap.lt_size hp1
  have a2 := Heap.lt_size hp2
  have hLs := F.lt
  refine call_zip_2 p1.isList p2.isList fun h' hz hTI hTO hit1 hit2 hsz hk => ?_
  have st : zipSt (s.heap.objs.size + 4) (s.heap.objs.size + 2) (s.heap.objs.size + 3) s.heap.objs.size (s.heap.objs.size + 1) l1 l2 xs ys 0 h' :=
    ⟨hz, hTI, ⟨_, _, hTO⟩, hit1, hit2, (p1.at fun o e => hk _ _ e).isList, (p2.at fun o e => hk _ _ e).isList⟩
  have none : ∀ k, s.heap.get? (s.heap.objs.size + k) = none := fun k => get_ge_none (Nat.le_add_right _ _)
  have F₁ := F.keep (h' := h') (tk := s.toks) hk
  have up : ∀ y ∈ [s.heap.objs.size + 4, s.heap.objs.size + 3, s.heap.objs.size, s.heap.objs.size + 1, s.heap.objs.size + 2], s.heap.objs.size ≤ y := fun y hy => by
    simp only [List.mem_cons, List.not_mem_nil, or_false] at hy
    omega
  refine h _ _ _ _ _ _ (zipApart_new a1 a2) ⟨⟨F₁.step, F₁.ns, F₁.has, fun x hx => ?_⟩, fun b hb => ?_, zip_live st, hX, fun y hy => ?_, hk, fun y hy => get_ge_none (up y hy), fun hm => ?_, fun hm => ?_⟩ st
  · rcases List.mem_cons.mp hx with rfl | hx
    · exact F.out _ (by simp)
    · rcases List.mem_append.mp hx with hx | hx
      · exact F.none_of (get_ge_none (up x hx))
      · exact F.out x (List.mem_cons_of_mem _ hx)
  · simp only [List.mem_cons, List.not_mem_nil, or_false] at hb ⊢
    rcases hb with e | e | e | e <;> simp [e]
  · have live := zip_live st
    simp only [List.mem_cons, List.not_mem_nil, or_false] at hy
    rcases hy with e | e | e | e | e | e | e
    · exact live y (by rw [e]; simp)
    · exact live y (by rw [e]; simp)
    · exact live y (by rw [e]; simp)
    · exact live y (by rw [e]; simp)
    · exact live y (by rw [e]; simp)
    · rw [e]; show (h'.get? l1).isSome = true; rw [hk _ _ hp1]; rfl
    · rw [e]; show (h'.get? l2).isSome = true; rw [hk _ _ hp2]; rfl
  · rcases List.mem_append.mp hm with hm | hm
    · exact absurd (up L hm) (Nat.not_le.mpr hLs)
    · exact hLX hm
  · simp only [List.mem_cons, List.not_mem_nil, or_false] at hm
    have h1 := (F.out L (by simp)).1
    refine Classical.byContradiction fun hNo => ?_
    obtain ⟨k1, r1⟩ := hl1
    obtain ⟨k2, r2⟩ := hl2
    refine hNo ?_
    clear hNo
    rcases hm with e | e | e | e | e | e | e
    · exact absurd hLs (by rw [e]; exact Nat.not_lt.mpr (by first | exact Nat.le_refl _ | exact Nat.le_add_right _ _))
    · exact absurd hLs (by rw [e]; exact Nat.not_lt.mpr (by first | exact Nat.le_refl _ | exact Nat.le_add_right _ _))
    · exact absurd hLs (by rw [e]; exact Nat.not_lt.mpr (by first | exact Nat.le_refl _ | exact Nat.le_add_right _ _))
    · exact absurd hLs (by rw [e]; exact Nat.not_lt.mpr (by first | exact Nat.le_refl _ | exact Nat.le_add_right _ _))
    · exact absurd hLs (by rw [e]; exact Nat.not_lt.mpr (by first | exact Nat.le_refl _ | exact Nat.le_add_right _ _))
    · rw [e, r1] at h1; cases h1
    · rw [e, r2] at h1; cases h1
end
end Mine
end
section
open PySem PySem.W PySem.Calls PyProof.Rows
set_option maxRecDepth 100000
set_option linter.unusedVariables false
set_option linter.unusedSimpArgs false
namespace Mine

section
variable {prog : Program} {w : World} {A : Around} {s s₀ sb : Shared} {env : Env} {R R' R₀ : Heap} {X pv : List Addr} {L a : Addr} {cd : Value} {m : Str → Option Value} {mg mb : Str → Option Value} {c1 c2 : Option Value}

/-- words -/
theorem st14 (hA : AOk A 4) (Z : LF s₀ R L m s c1 c2) {v : Value} {ds : List Dr} (hm : m "letters" = some v) (hv : IsLst IsDr R v ds) (hn : ds.length ≤ 5) {Q : Flow → Shared → Prop}
    (h : ∀ R' s' v, Grow R R' s₀.heap → LF s₀ R' L (upd m "words" v) s' c1 c2 → IsLst isS R' v (ds.map Dr.word) → Q .next s') :
    wpAny (model prog w) A (exec (ls 14) (e21 L a cd)) Q NoE s := by
  refine LF.compT (s₀ := s₀) (m := m) (c1 := c1) (c2 := c2) (cl := []) (P' := isS) (pz := fun _ => true) (fy := Dr.word) (ns := [("ahead", ⟨159, 22, 159, 27⟩), ("sign", ⟨159, 29, 159, 33⟩), ("word", ⟨159, 35, 159, 39⟩), ("undone", ⟨159, 41, 159, 47⟩)]) monoS rfl hA.hh ?_ rfl (by decide) rfl (by decide) (fun _ => rfl) (by
    intro C x hx
    simp only [List.mem_cons, List.not_mem_nil, or_false] at hx
    rcases hx with rfl | rfl | rfl | rfl <;> rfl) rfl ?_
  · rfl
  refine nmL Z.F hm ?_
  refine ⟨R, ds, Z, hv, by omega, ?_, fun R₂ s₂ v₂ g₂ Z₂ hl₂ => h R₂ s₂ v₂ g₂ Z₂ (by rw [filtT] at hl₂; exact hl₂)⟩
  rintro C d s₃ R₃ XX mc hmem g₃ F₃ hXX hCX hsub hB
  refine wpAny_tests_nil ?_
  refine ⟨rfl, ⟨s₃.toks, rfl⟩, fun _ => ?_⟩
  refine Classical.byContradiction fun hNo => ?_
  obtain ⟨t1, t2, t3, t4, e1, e2, e3, e4⟩ := hB
  refine hNo ?_
  clear hNo
  exact nmL F₃ e3 ⟨R₃, Grow.refl _ _, F₃, Sub.refl _, t3, rfl⟩ rfl rfl rfl

noncomputable def BindZ (mc : Str → Option Value) (p : Nat × List Nat) : Prop := ∃ t1 t2, mc "weight" = some (.int (p.1 : Int) t1) ∧ mc "word" = some (.str ⟨p.2.toArray⟩ t2)
noncomputable def VZ (p : Nat × List Nat) (arr : Array Value) : Prop := ∃ t1 t2, arr = #[.int (p.1 : Int) t1, .str ⟨p.2.toArray⟩ t2]

set_option maxHeartbeats 1000000 in
/-- sum([elt for weight, word in zip(weights, words)]) -/
theorem sumZ {elt : Expr} {scope : Scope} {cl : List (Str × Addr)} {fy : Nat × List Nat → Int} {kt : Nat} {p1 p2 p3 p4 p5 p6 p7 p8 p9 p10 : Pos} {Q : Value → Shared → Prop} (G : GE prog w mg mb R₀) (hA : AOk A 4) (hR : Sub R₀ R) (Z : LF s₀ R L m s c1 c2)
    {wv ov : Value} {ws : List Nat} {os : List (List Nat)} (hmw : m "weights" = some wv) (hw : IsLst isN R wv ws) (hmo : m "words" = some ov) (ho : IsLst isS R ov os) (hn : ws.length ≤ 100)
    (hclos : closureFor scope (e21 L a cd) = pure cl) (hcell : ∀ y ∈ scope.names, y.2 ≠ .cell) (hkind : scope.kind = .function) (hnames : ∀ y ∈ scope.names, y.2 = .local → scope.names.lookup y.1 = some .local)
    (hk1 : ∀ C, (compEnvC scope cl C (e21 L a cd)).kindOf "weight" = some .local) (hk2 : ∀ C, (compEnvC scope cl C (e21 L a cd)).kindOf "word" = some .local)
    (EO : ElOk prog w A s₀ s R (fun C => compEnvC scope cl C (e21 L a cd)) [] elt BindZ isI (fun _ => true) fy (ws.zip os))
    (h : ∀ R' s' t, Grow R R' s₀.heap → LF s₀ R' L m s' c1 c2 → Q (.int ((ws.zip os).map fy).sum t) s') :
    wpAny (model prog w) A (eval (.Call (.Name "sum" p1) [.ListComp elt [⟨.Tuple [.Name "weight" p2, .Name "word" p3] kt p4, .Call (.Name "zip" p5) [.Name "weights" p6, .Name "words" p7] [] p8, [], 0⟩] scope p9] [] p10) (e21 L a cd)) Q NoE s := by
  have GG := G.keeps hR
  refine Call_ (nmB Z.F GG.g GG.b GG.sum.1 GG.sum.2 (PyProof.Rows.callWith_builtin1 ?_ ?_ ?_))
  case refine_2 => rfl
  case refine_3 => rfl
  refine args_cons ?_ rfl
  refine evalL hclos hcell hkind hnames ?_ (fun _ => rfl)
  refine Call_ (nmB Z.F GG.g GG.b GG.zip.1 GG.zip.2 (PyProof.Rows.callWith_type1 ?_ ?_ ?_))
  case refine_2 => rfl
  case refine_3 => rfl
  refine args_cons (nmL Z.F hmw ?_) rfl
  refine args_cons (nmL Z.F hmo ?_) rfl
  refine args_nil ?_
  refine Classical.byContradiction fun hNo => ?_
  obtain ⟨D1, v1, rfl, hp1, al1⟩ := hw
  obtain ⟨D2, v2, rfl, hp2, al2⟩ := ho
  refine hNo ?_
  clear hNo
  have hl1 := al1.length
  have hl2 := al2.length
  rw [Array.length_toList] at hl1 hl2
  refine zipReady Z.F Z.live (by simp) hp1 hp2 fun s₁ z TI TO i1 i2 D T st => ?_
  have W := (WalksT.zip2 (prog := prog) (w := w) (A := A) hA.hh z TI TO i1 i2 D1 D2 D v1 v2).toU
  have hmin : min v1.size v2.size = (ws.zip os).length := by rw [List.length_zip, hl1, hl2]
  rw [hmin] at W
  refine W.self 0 _ _ _ st ?_
  refine loopsU (V := VZ) (Bind := BindZ) (P := isI) (fy := fy) (pz := fun _ => true) (xs := ws.zip os) (ns := [("weight", p2), ("word", p3)]) hA.hh W T st (fun i h x => zip_live x) ?_ ?_ ?_ (by rw [List.length_zip]; omega) monoI ?_ hkind EO ?_
  · intro i vals hJo
    refine Classical.byContradiction fun hNo => ?_
    obtain ⟨x, y, hx, hy, rfl⟩ := hJo
    refine hNo ?_
    clear hNo
    refine Classical.byContradiction fun hNo => ?_
    obtain ⟨n, hn', t1, rfl⟩ := al1.get (show v1.toList[i]? = some x by simpa using hx)
    obtain ⟨o, ho', t2, rfl⟩ := al2.get (show v2.toList[i]? = some y by simpa using hy)
    refine hNo ?_
    clear hNo
    exact ⟨(n, o), by rw [List.getElem?_zip_eq_some]; exact ⟨hn', ho'⟩, t1, t2, rfl⟩
  · rintro p arr ⟨t1, t2, rfl⟩; rfl
  · rintro m₁ p arr ⟨t1, t2, rfl⟩
    exact ⟨t1, t2, rfl, rfl⟩
  · intro C x hx
    simp only [List.mem_cons, List.not_mem_nil, or_false] at hx
    rcases hx with rfl | rfl
    · exact hk1 C
    · exact hk2 C
  · intro B C mc R' s' g Fc hLC hLB hBC hBX hns mk hsub hsC
    refine listDoneE (s := s) (X := [L + 2, L + 1]) monoI g Fc (fun x hx => List.mem_append_right _ hx) T.hLX hLC hLB hBC hBX hns mk hsub hsC fun R₂ s₂ vs g₂ F₂ hp al k => ?_
    refine args_nil ?_
    rw [filtT] at al
    refine sumL hA.hh F₂.has ⟨B, vs, rfl, hp, al⟩ fun h' tk t hk => ?_
    have Z₂ : LF s₀ R₂ L m s₂ c1 c2 := ⟨F₂, isCell_kb (Y := []) Z.k1 (KB.of_sub k) (by simp), isCell_kb (Y := []) Z.k2 (KB.of_sub k) (by simp)⟩
    exact h R₂ _ t g₂ (Z₂.keep hk)
end
end Mine
end
section
open PySem PySem.W PySem.Calls PyProof.Rows
set_option maxRecDepth 100000
set_option linter.unusedVariables false
set_option linter.unusedSimpArgs false
namespace Mine

section
variable {prog : Program} {w : World} {A : Around} {s s₀ sb : Shared} {env : Env} {R R' R₀ : Heap} {X pv : List Addr} {L a : Addr} {cd : Value} {m : Str → Option Value} {mg mb : Str → Option Value} {c1 c2 : Option Value}

set_option maxHeartbeats 1000000 in
/-- size -/
theorem st15 (G : GE prog w mg mb R₀) (hA : AOk A 4) (hR : Sub R₀ R) (Z : LF s₀ R L m s c1 c2)
    {wv ov : Value} {ws : List Nat} {os : List (List Nat)} (hmw : m "weights" = some wv) (hw : IsLst isN R wv ws) (hmo : m "words" = some ov) (ho : IsLst isS R ov os) (hn : ws.length ≤ 100) (hw4 : ∀ n ∈ ws, n ≤ 4) (ho4 : ∀ o ∈ os, o.length ≤ 4) {Q : Flow → Shared → Prop}
    (h : ∀ R' s' t, Grow R R' s₀.heap → LF s₀ R' L (upd m "size" (.int ((ws.zip os).map fun p => (p.1 : Int) * (p.2.length : Int)).sum t)) s' c1 c2 → Q .next s') :
    wpAny (model prog w) A (exec (ls 15) (e21 L a cd)) Q NoE s := by
  refine wpAny_Assign_Name ?_
  refine sumZ (cl := []) (fy := fun p : Nat × List Nat => (p.1 : Int) * (p.2.length : Int)) G hA hR Z hmw hw hmo ho hn rfl (by decide) rfl (by decide) (fun _ => rfl) (fun _ => rfl) ?_ fun R' s' t g Z' => ?_
  · intro C p s₃ R₃ XX mc hmem g₃ F₃ hXX hCX hsub hJo
    refine Classical.byContradiction fun hNo => ?_
    obtain ⟨t1, t2, e1, e2⟩ := hJo
    refine hNo ?_
    clear hNo
    refine wpAny_tests_nil ?_
    refine ⟨rfl, ⟨s₃.toks, rfl⟩, fun _ => ?_⟩
    have GG := G.keeps (hR.trans g₃.sub)
    have hp := List.of_mem_zip (show (p.1, p.2) ∈ ws.zip os from hmem)
    have h1 := hw4 _ hp.1
    have h2 := ho4 _ hp.2
    refine wpAny_BinOp (nmL F₃ e1 ?_ rfl rfl rfl)
    refine Call_ (nmB F₃ GG.g GG.b GG.len.1 GG.len.2 (PyProof.Rows.callWith_builtin1 (args_cons (nmL F₃ e2 (args_nil ?_) rfl rfl rfl) rfl) rfl rfl) rfl rfl rfl rfl)
    refine PySem.P.len_str (by rw [strLen]; omega) ?_
    rw [strLen]
    refine PySem.P.mul_int ?_ (.of_left ?_)
    · exact ⟨R₃, Grow.refl _ _, F₃.tok, Sub.refl _, _, rfl⟩
    · generalize p.1 = n at h1
      rcases n with _ | _ | _ | _ | _ | n
      · decide
      · decide
      · decide
      · decide
      · decide
      · omega
  · exact Z'.st fun s₂ Z₂ => h R' s₂ t g Z₂
end
end Mine
end
section
open PySem PySem.W PySem.Calls PyProof.Rows
set_option maxRecDepth 100000
set_option linter.unusedVariables false
set_option linter.unusedSimpArgs false
namespace Mine

section
variable {prog : Program} {w : World} {A : Around} {s s₀ sb : Shared} {env : Env} {R R' R₀ : Heap} {X pv : List Addr} {L a : Addr} {cd : Value} {m : Str → Option Value} {mg mb : Str → Option Value} {c1 c2 : Option Value}

/-- a text's iterator, ready -/
theorem strReady (F : Fm s₀ R X L m s) (hX : ∀ y ∈ X, (s.heap.get? y).isSome = true) (hLX : L ∉ X) {x : Str} {t : Tok} {Q : Value → Shared → Prop}
    (h : ∀ s₁ I, ItReady s₀ s s₁ R X [I] [I] [I] L m → s₁.heap.IsStrIter I (strIterType x) x t 0 → Q (.ref I) s₁) :
    wpAny (model prog w) A (pyIter (.str x t)) Q NoE s := by
  refine wpAny_pyIter_strU ?_
  have F₁ := F.new (tk := s.toks) { cls := .type (strIterType x), data := .fields #[.str x t, .int 0 0] }
  have hz := get_size_none s.heap
  have hI : (s.heap.push { cls := .type (strIterType x), data := .fields #[.str x t, .int 0 0] }).IsStrIter s.heap.objs.size (strIterType x) x t 0 := ⟨_, Heap.get?_push_size _ rfl, rfl, rfl⟩
  have hlive : ∀ y ∈ [s.heap.objs.size], ((s.heap.push { cls := .type (strIterType x), data := .fields #[.str x t, .int 0 0] }).get? y).isSome = true := fun y hy => by
    obtain rfl := List.mem_singleton.mp hy
    obtain ⟨o, ho, _⟩ := hI; rw [ho]; rfl
  refine h _ _ ⟨F₁, fun b hb => hb, hlive, hX, hlive, sub_push _ _, fun y hy => by obtain rfl := List.mem_singleton.mp hy; exact hz, fun hm => ?_, fun hm => ?_⟩ hI
  · rcases List.mem_cons.mp hm with e | hm
    · exact Nat.ne_of_lt F.lt e
    · exact hLX hm
  · exact Nat.ne_of_lt F.lt (List.mem_singleton.mp hm)

noncomputable abbrev isC : Heap → Value → Nat → Prop := fun _ v c => ∃ t, v = Value.str ⟨#[c]⟩ t
theorem monoC : MonoP isC := fun _ _ _ _ _ y => y

set_option maxHeartbeats 2000000 in
/-- own -/
theorem st16 (G : GE prog w mg mb R₀) (hA : AOk A 4) (hR : Sub R₀ R) {f : Nat} {tf : Tok} (hc2 : c2 = some (.str ⟨#[f]⟩ tf)) (Z : LF s₀ R L m s c1 c2)
    {wv ov : Value} {ws : List Nat} {os : List (List Nat)} (hmw : m "weights" = some wv) (hw : IsLst isN R wv ws) (hmo : m "words" = some ov) (ho : IsLst isS R ov os) (hn : ws.length ≤ 100) (hw4 : ∀ n ∈ ws, n ≤ 4) (ho4 : ∀ o ∈ os, o.length ≤ 4) {Q : Flow → Shared → Prop}
    (h : ∀ R' s' t, Grow R R' s₀.heap → LF s₀ R' L (upd m "own" (.int ((ws.zip os).map fun p => (p.1 : Int) * ((p.2.filter (· = f)).length : Int)).sum t)) s' c1 c2 → Q .next s') :
    wpAny (model prog w) A (exec (ls 16) (e21 L a cd)) Q NoE s := by
  refine wpAny_Assign_Name ?_
  refine sumZ (cl := [("initial", L + 2)]) (fy := fun p : Nat × List Nat => (p.1 : Int) * ((p.2.filter (· = f)).length : Int)) G hA hR Z hmw hw hmo ho hn rfl (by decide) rfl (by decide) (fun _ => rfl) (fun _ => rfl) ?_ fun R' s' t g Z' => ?_
  · intro C p s₃ R₃ XX mc hmem g₃ F₃ hXX hCX hsub hJo
    refine Classical.byContradiction fun hNo => ?_
    obtain ⟨t1, t2, e1, e2⟩ := hJo
    refine hNo ?_
    clear hNo
    refine wpAny_tests_nil ?_
    refine ⟨rfl, ⟨s₃.toks, rfl⟩, fun _ => ?_⟩
    have GG := G.keeps (hR.trans g₃.sub)
    have hp := List.of_mem_zip (show (p.1, p.2) ∈ ws.zip os from hmem)
    have h1 := hw4 _ hp.1
    have h2 := ho4 _ hp.2
    refine wpAny_BinOp (nmL F₃ e1 ?_ rfl rfl rfl)
    refine Call_ (nmB F₃ GG.g GG.b GG.len.1 GG.len.2 (PyProof.Rows.callWith_builtin1 ?_ ?_ ?_) rfl rfl rfl rfl)
    case refine_2 => rfl
    case refine_3 => rfl
    refine args_cons ?_ rfl
    refine evalL (cl := [("initial", L + 2)]) rfl (by decide) rfl (by decide) ?_ (fun _ => rfl)
    refine nmL F₃ e2 ?_ rfl rfl rfl
    refine strReady F₃ hXX hCX fun s₄ I T st => ?_
    have W := strWalks (prog := prog) (w := w) (A := A) hA.hh I ⟨p.2.toArray⟩ t2
    have hsz : (⟨p.2.toArray⟩ : Str).cps.size = p.2.length := by simp
    rw [hsz] at W
    refine loopsW (V := fun c v => ∃ t, v = Value.str ⟨#[c]⟩ t) (P := isC) (fy := fun c => c) (pz := fun c => decide (c = f)) (xs := p.2) hA.hh W T st ?_ ?_ (by omega) monoC (fun _ => rfl) rfl ?_ ?_
    · intro i h x y hy
      obtain rfl := List.mem_singleton.mp hy
      obtain ⟨o, ho, _⟩ := x
      rw [ho]; rfl
    · intro i v hJo
      refine Classical.byContradiction fun hNo => ?_
      obtain ⟨c, u, hc, rfl⟩ := hJo
      refine hNo ?_
      clear hNo
      exact ⟨c, by simpa using hc, u, rfl⟩
    · intro C₂ c s₅ R₅ XX₂ mc₂ hmem₂ g₅ F₅ hXX₂ hCX₂ hsub₂ hJo
      refine Classical.byContradiction fun hNo => ?_
      obtain ⟨v, hv, t, rfl⟩ := hJo
      refine hNo ?_
      clear hNo
      have hcell : s₅.heap.IsCell (L + 2) (some (.str ⟨#[f]⟩ tf)) := by
        have k := isCell_kb (Y := []) Z.k2 (KB.of_sub (hsub.trans hsub₂)) (by simp)
        rw [hc2] at k; exact k
      refine wpAny_tests_one (wpAny_isTrue_Compare1 (nmL F₅ hv (nmC hcell ?_ rfl rfl rfl rfl) rfl rfl rfl))
      refine PySem.P.eq_str ?_
      refine wpAny_truthy_bool ⟨?_, ⟨s₅.toks, rfl⟩, fun _ => ?_⟩
      · by_cases e : c = f
        · subst e; simp
        · have : (⟨#[c]⟩ : Str) ≠ ⟨#[f]⟩ := fun q => e (by simpa using congrArg (fun s => s.cps.toList) q)
          simp [e]
      · exact nmL F₅.tok hv ⟨R₅, Grow.refl _ _, F₅.tok, Sub.refl _, t, rfl⟩ rfl rfl rfl
    · intro B C₂ mc₂ R₂ s' g Fc hLC hLB hBC hBX hns mk hsub₂ hsC
      refine listDoneE (s := s₃) (X := XX) monoC g Fc (fun x hx => List.mem_append_right _ hx) T.hLX hLC hLB hBC hBX hns mk hsub₂ hsC fun R₄ s₆ vs g₄ F₆ hp₄ al k => ?_
      have hlen := al.length
      rw [Array.length_toList, List.length_map] at hlen
      have hfl : (p.2.filter fun c => decide (c = f)).length ≤ 4 := Nat.le_trans (List.length_filter_le ..) h2
      refine args_nil ?_
      refine call_len_list (hp₄.at fun o e => F₆.has _ o e).isList (by omega) ?_
      rw [hlen]
      refine PySem.P.mul_int ?_ (.of_left ?_)
      · exact ⟨R₄, g₄, F₆.tok, k, _, rfl⟩
      · generalize p.1 = n at h1
        rcases n with _ | _ | _ | _ | _ | n
        · decide
        · decide
        · decide
        · decide
        · decide
        · omega
  · exact Z'.st fun s₂ Z₂ => h R' s₂ t g Z₂
end
end Mine
end
section
open PySem PySem.W PySem.Calls PyProof.Rows
set_option maxRecDepth 100000
set_option linter.unusedVariables false
set_option linter.unusedSimpArgs false
namespace Mine

section
variable {prog : Program} {w : World} {A : Around} {E : Value → Shared → Prop} {s : Shared}

theorem sliceTo4 {sl : Addr} {u : Tok} {Q : Int × Int × Nat → Shared → Prop} (hs : s.heap.IsSliceOf sl .none (.int 4 u) .none) (h : Q (0, 1, 4) s) :
    wpAny (model prog w) A (Builtin.Slice.sliceApplied (.ref sl) (pure (5 : Int))) Q E s := by
  refine Classical.byContradiction fun hNo => ?_
  obtain ⟨os, hos, hcs, hds⟩ := id hs
  refine hNo ?_
  clear hNo
  unfold Builtin.Slice.sliceApplied Builtin.Slice.sliceFields
  refine wpAny_bind (wpAny_bind (wpAny_field hos hds (x := .none) rfl (wpAny_bind (wpAny_field hos hds (x := .int 4 u) rfl (wpAny_bind (wpAny_field hos hds (x := .none) rfl (wpAny_pure ?_)))))))
  refine wpAny_bind (slicePart_none ?_)
  show wpAny _ _ (if ((1 : Int) == 0) = true then _ else _) _ _ s
  rw [if_neg (by decide)]
  refine wpAny_bind (slicePart_none (wpAny_bind (slicePart_int (wpAny_bind (wpAny_pure ?_)))))
  exact wpAny_pure h

/-- a tuple of five, its first four -/
theorem four_of_five {t sl : Addr} {a b c d e : Value} {u : Tok} {Q : Value → Shared → Prop} (ht : s.heap.IsTuple t #[a, b, c, d, e]) (hs : s.heap.IsSliceOf sl .none (.int 4 u) .none)
    (h : Q (.ref s.heap.objs.size) { s with heap := s.heap.push { cls := .type "tuple", data := .seq #[a, b, c, d] } }) :
    wpAny (model prog w) A (getItem (.ref t) (.ref sl)) Q E s := by
  have hsz : sizeOk (.seq #[a, b, c, d]) := by show 4 ≤ sizeLine; rw [sizeLine_eq]; omega
  have ht : IsTup s.heap t #[a, b, c, d, e] := ht
  refine Classical.byContradiction fun hNo => ?_
  obtain ⟨os, hos, hcs, hds⟩ := id hs
  refine hNo ?_
  clear hNo
  have hTs : s.TypeIs (.ref sl) "slice" := ⟨os, hos, hcs⟩
  unfold getItem
  try with_reducible refine wpAny_holding ?_
  first | refine wpAny_bind (wpAny_pure ?_) | skip
  refine wpAny_bind (wpAny_sequenceKey ht.typeIs (by decide) ?_)
  refine wpAny_bind (wpAny_callSpecial?_slot (name := Str.ofString "__getitem__") ht.typeIs PyProof.Rows.slot_tuple_getitem
    (wpAny_call_entry PyProof.Rows.slot_tuple_getitem ht.typeIs PyProof.Rows.entry_tuple_getitem ?_ (PyProof.Rows.args_tuple_getitem _ _)))
  show wpAny _ _ (Builtin.Tuple.tupleItemsOf (.ref t) >>= _) _ _ s
  refine wpAny_bind (tupleItemsOf_ ht ?_)
  refine wpAny_bind (wpAny_typeOf hTs ?_)
  rw [if_pos (by decide)]
  refine wpAny_bind (sliceTo4 hs ?_)
  show wpAny _ _ (if ((0 : Int) == 0 && (1 : Int) == 1 && (4 : Nat) == 5) = true then _ else _) _ _ s
  rw [if_neg (by decide)]
  first
    | exact wpAny_bind (m := Builtin.Tuple.tupleExact _) (wpAny_newObj_type (wpAny_pure ⟨_, rfl, wpAny_pure h⟩) hsz)
    | exact wpAny_bind (m := Builtin.Tuple.tupleExact _) (wpAny_newObj_type (wpAny_bind (wpAny_pure (wpAny_pure ⟨_, rfl, wpAny_pure h⟩))) hsz)
    | exact wpAny_bind (wpAny_bind (m := Builtin.Tuple.tupleExact _) (wpAny_newObj_type (wpAny_pure (wpAny_pure ⟨_, rfl, wpAny_pure h⟩)) hsz))
    | exact wpAny_bind (wpAny_bind (m := Builtin.Tuple.tupleExact _) (wpAny_newObj_type (wpAny_pure ⟨_, rfl, wpAny_pure h⟩) hsz))
end
end Mine
end
section
open PySem PySem.W PySem.Calls PyProof.Rows
set_option maxRecDepth 100000
set_option linter.unusedVariables false
set_option linter.unusedSimpArgs false
namespace Mine

section
variable {prog : Program} {w : World} {A : Around} {s s₀ sb : Shared} {env : Env} {R R' R₀ : Heap} {X pv : List Addr} {L a : Addr} {cd : Value} {m : Str → Option Value} {mg mb : Str → Option Value} {c1 c2 : Option Value}

/-- entry -/
theorem st17 (G : GE prog w mg mb R₀) (hA : AOk A 13) (hR : Sub R₀ R) {f x y : Nat} {tf : Tok} (hc2 : c2 = some (.str ⟨#[f]⟩ tf)) (Z : LF s₀ R L m s c1 c2) {rv : Value} {r : Run} (hm : m "run" = some rv) (hr : IsRun R rv r) (ht : ∀ p ∈ r, p.2 = 1 ∨ p.2 = -1) (hc : ∀ p ∈ r, p.1 = x ∨ p.1 = y) {Q : Flow → Shared → Prop}
    (h : ∀ R' s' v, Grow R R' s₀.heap → LF s₀ R' L (upd m "entry" v) s' c1 c2 → IsEnt prog w R' v (entryP f r) → Q .next s') :
    wpAny (model prog w) A (exec (ls 17) (e21 L a cd)) Q NoE s := by
  have GG := G.keeps hR
  refine wpAny_Assign_Name ?_
  refine callF Z.F GG.g (GG.fns 19 (by simp)) rfl ?_
  refine args_cons (nmL Z.F hm ?_) rfl
  refine args_cons (nmC (hc2 ▸ Z.k2) ?_ rfl rfl rfl rfl) rfl
  refine args_nil ⟨Z.F.has, fun a' ha' => ?_⟩
  refine wpAny_mono (entry_spec GG hA Z.F.has a' ha' hr ht hc) (fun v s₁ h₁ => ?_) fun _ _ q => q
  refine Classical.byContradiction fun hNo => ?_
  obtain ⟨st, R₁, g₁, S₁, he⟩ := h₁
  refine hNo ?_
  clear hNo
  exact (Z.call st g₁ S₁).st fun s' Z' => h R₁ s' v (g₁.back Z.F.step.sub) Z' he

/-- entry[4] -/
theorem entry4 (Z : LF s₀ R L m s c1 c2) {T d : Addr} {e : Ent} {t1 t2 t3 t4 : Tok} {p1 p2 p3 : Pos} {k : Nat} (hm : m "entry" = some (.ref T)) (hT : R.IsTuple T #[.int e.cc t1, .int e.nc t2, .int e.tt t3, .int e.ct t4, .ref d]) {Q : Value → Shared → Prop}
    (h : Q (.ref d) { s with toks := s.toks + 1 }) : wpAny (model prog w) A (eval (.Subscript (.Name "entry" p1) (.Constant (.int 4) k p2) p3) (e21 L a cd)) Q NoE s := by
  refine Subscript_ (nmL Z.F hm (wpAny_Constant_int ?_))
  exact itemT (j := 4) (isTuple_keeps hT (Z.tok (tk := s.toks + 1)).F.has) (by decide) rfl rfl h rfl

theorem testGt {cenv : Env} {R₁ : Heap} {XX : List Addr} {C : Addr} {mc : Str → Option Value} {s₁ : Shared} {p : Str × Int} {tv : Tok} {p1 p2 p3 : Pos} {k : Nat} (F : Fm s₀ R₁ XX C mc s₁) (mv : mc "count" = some (.int p.2 tv))
    (hl : cenv.kindOf "count" = some .local) (hk : cenv.scope.kind = .function) (hL : cenv.locals = C) :
    wpAny (model prog w) A (tests [.Compare (.Name "count" p1) [.Gt] [.Constant (.int 0) k p2] p3] cenv) (fun ok s' => ok = decide (p.2 > 0) ∧ ∃ t, s' = { s₁ with toks := t }) NoE s₁ := by
  refine wpAny_tests_one (wpAny_isTrue_Compare1 (nmL F mv (wpAny_Constant_int (PySem.P.gt_int (wpAny_truthy_bool ⟨?_, _, rfl⟩))) hl hk hL))
  simp

set_option maxHeartbeats 1000000 in
/-- rows -/
theorem st18 (G : GE prog w mg mb R₀) (hA : AOk A 6) (hR : Sub R₀ R) (Z : LF s₀ R L m s c1 c2) {T d : Addr} {e : Ent} {t1 t2 t3 t4 : Tok} (hm : m "entry" = some (.ref T)) (hT : R.IsTuple T #[.int e.cc t1, .int e.nc t2, .int e.tt t3, .int e.ct t4, .ref d]) (hd : IsRows prog w R d e.rows) (hn : e.rows.length ≤ 1000) {Q : Flow → Shared → Prop}
    (h : ∀ R' s' B, Grow R R' s₀.heap → LF s₀ R' L (upd m "rows" (.ref B)) s' c1 c2 → IsRows prog w R' B (nonZero e.rows) → Q .next s') :
    wpAny (model prog w) A (exec (ls 18) (e21 L a cd)) Q NoE s := by
  have GG := G.keeps hR
  have Z₁ := Z.tok (tk := s.toks + 1)
  refine assignItems (cl := []) (L := L) (s := { s with toks := s.toks + 1 }) (pz := fun p => decide (p.2 ≠ 0)) (fk := fun k => k) (fv := fun p => p.2) ?_ rfl (by decide) rfl (by decide) rfl rfl rfl hA.hh GG Z₁.F Z₁.live (by simp) hd hn rfl rfl (fun Q' q => ?_) (fun _ => rfl) (fun _ => rfl) (by decide)
    (plainFacts (fun C p s₁ R₁ XX mc tk tv hp hS F mk mv => testNe F mv rfl rfl rfl) (fun _ => rfl) (fun _ => rfl) rfl) (fun R' B s' g F' hr k _ => ?_)
  · rfl
  · exact entry4 Z hm hT q
  · exact h R' s' B g (Z₁.kb F' k) hr

set_option maxHeartbeats 1000000 in
/-- above -/
theorem st19 (G : GE prog w mg mb R₀) (hA : AOk A 6) (hR : Sub R₀ R) (Z : LF s₀ R L m s c1 c2) {d : Addr} {rows : Kv} (hm : m "rows" = some (.ref d)) (hd : IsRows prog w R d rows) (hn : rows.length ≤ 1000) {Q : Flow → Shared → Prop}
    (h : ∀ R' s' B, Grow R R' s₀.heap → LF s₀ R' L (upd m "above" (.ref B)) s' c1 c2 → IsRows prog w R' B (aboveZero rows) → Q .next s') :
    wpAny (model prog w) A (exec (ls 19) (e21 L a cd)) Q NoE s := by
  have GG := G.keeps hR
  refine assignItems (cl := []) (L := L) (s := s) (pz := fun p => decide (p.2 > 0)) (fk := fun k => k) (fv := fun p => p.2) ?_ rfl (by decide) rfl (by decide) rfl rfl rfl hA.hh GG Z.F Z.live (by simp) hd hn rfl rfl (fun Q' q => nmL Z.F hm q) (fun _ => rfl) (fun _ => rfl) (by decide)
    (plainFacts (fun C p s₁ R₁ XX mc tk tv hp hS F mk mv => testGt F mv rfl rfl rfl) (fun _ => rfl) (fun _ => rfl) rfl) (fun R' B s' g F' hr k _ => ?_)
  · rfl
  · exact h R' s' B g (Z.kb F' k) hr

/-- told -/
theorem st20 (G : GE prog w mg mb R₀) (hA : AOk A 7) (hR : Sub R₀ R) (Z : LF s₀ R L m s c1 c2) {v : Value} {left : Bool} {ds : List Dr} {d0 d1 d2 : Dr} (hm : m "letters" = some v) (hv : IsLst IsDr R v ds) (hn : ds.length ≤ 5) (h3 : ds.take 3 = [d0, d1, d2]) (hu : ∀ d ∈ [d0, d1, d2], d.und ≤ 1 ∧ d.word.length ≤ 4) (hl : m "left" = some (.bool left)) {Q : Flow → Shared → Prop}
    (h : ∀ R' s' B, Grow R R' s₀.heap → LF s₀ R' L (upd m "told" (.ref B)) s' c1 c2 → IsRows prog w R' B (toldP left d0 d1 d2) → Q .next s') :
    wpAny (model prog w) A (exec (ls 20) (e21 L a cd)) Q NoE s := by
  have GG := G.keeps hR
  refine wpAny_Assign_Name ?_
  refine callF Z.F GG.g (GG.fns 20 (by simp)) rfl ?_
  refine args_cons ?_ rfl
  refine LF.slice (s₀ := s₀) (L := L) (m := m) (P := IsDr) (c1 := c1) (c2 := c2) monoDr ?_
  refine nmL Z.F hm ?_
  refine evalPart_none_step ?_
  refine evalPart_some_step ?_
  refine wpAny_Constant_int ?_
  refine ⟨R, none, some 3, ds, Z.tok, hv, by omega, .none, .int _ _, fun R₁ s₁ v₁ g₁ Z₁ hl₁ => ?_⟩
  rw [show (some (3 : Int)) = some ((3 : Nat) : Int) from rfl, cut_to, h3] at hl₁
  refine args_cons (nmL Z₁.F hl ?_) rfl
  refine args_nil ⟨g₁.sub.trans Z₁.F.has, fun a' ha' => ?_⟩
  refine wpAny_mono (told_spec (GG.keeps g₁.sub) hA Z₁.F.has a' ha' hl₁ hu) (fun v₂ s₂ h₂ => ?_) fun _ _ q => q
  refine Classical.byContradiction fun hNo => ?_
  obtain ⟨st, R₂, g₂, S₂, B, rfl, hr⟩ := h₂
  refine hNo ?_
  clear hNo
  exact (Z₁.call st g₂ S₂).st fun s' Z' => h R₂ s' B (g₁.trans (g₂.back Z₁.F.step.sub) (Sub.refl _)) Z' hr
end
end Mine
end
section
open PySem PySem.W PySem.Calls PyProof.Rows
set_option maxRecDepth 100000
set_option linter.unusedVariables false
set_option linter.unusedSimpArgs false
namespace Mine

/-! ## the plain law: the text's tokens -/
inductive Tk
  | ch (c : Nat)
  | bs (c : Nat)
  | quo
noncomputable def Tk.text : Tk → List Nat
  | .ch c => [c]
  | .bs c => [92, c]
  | .quo => [34, 41, 34]
noncomputable def Tk.Ok : Tk → Prop
  | .ch c => c ≠ 92 ∧ c ≠ 34
  | .bs c => c ≠ 34
  | .quo => True
noncomputable def Tk.isPlain : Tk → Bool
  | .quo => false
  | _ => true
noncomputable def txt (ts : List Tk) : List Nat := (ts.map Tk.text).flatten
theorem txt_cons (t : Tk) (ts : List Tk) : txt (t :: ts) = t.text ++ txt ts := by simp [txt]
theorem txt_append (a b : List Tk) : txt (a ++ b) = txt a ++ txt b := by simp [txt]
theorem txt_nil : txt [] = [] := rfl
noncomputable abbrev plains (ts : List Tk) : List Tk := ts.filter Tk.isPlain

theorem esc_ch {c : Nat} (h : c ≠ 92) (i : Nat) (r : List Nat) : escItems false i (c :: r) = (i, [c]) :: escItems false (i + 1) r := by
  rw [escItems]; simp [h]
theorem esc_bs (c : Nat) (i : Nat) (r : List Nat) : escItems false i (92 :: c :: r) = (i + 1, [92, c]) :: escItems false (i + 2) r := by
  rw [escItems]; simp; rw [escItems]; simp

/-- the units of a text -/
theorem esc_units : ∀ (ts : List Tk) (i : Nat), (∀ t ∈ ts, t.Ok) → (∀ t ∈ ts, t.isPlain = true) → (escItems false i (txt ts)).map (·.2) = ts.map Tk.text
  | [], i, _, _ => rfl
  | t :: ts, i, ho, hp => by
    have ih := fun j => esc_units ts j (fun x hx => ho x (by simp [hx])) fun x hx => hp x (by simp [hx])
    have h1 := ho t (by simp)
    have h2 := hp t (by simp)
    rw [txt_cons]
    cases t with
    | ch c => show (escItems false i (c :: txt ts)).map _ = _; rw [esc_ch h1.1]; simp [ih, Tk.text]
    | bs c => show (escItems false i (92 :: c :: txt ts)).map _ = _; rw [esc_bs]; simp [ih, Tk.text]
    | quo => cases h2

theorem strip_go : ∀ (ts : List Tk) (cs pre : List Nat) (st : SS), cs = pre ++ txt ts → st.op = none → st.start ≤ pre.length → (∀ t ∈ ts, t.Ok) →
    (stripRes cs ((escItems false pre.length (txt ts)).foldl (stripStep cs) st)).flatten = st.res.flatten ++ pre.drop st.start ++ txt (plains ts)
  | [], cs, pre, st, hc, ho, hs, _ => by
    subst hc
    simp only [txt_nil, List.append_nil, escItems, Bool.false_eq_true, if_false, List.foldl_nil]
    unfold stripRes
    split
    · simp [txt]
    · rename_i h
      rw [List.drop_eq_nil_of_le (by omega)]; simp [txt]
  | t :: ts, cs, pre, st, hc, ho, hs, hok => by
    have hok' : ∀ x ∈ ts, x.Ok := fun x hx => hok x (by simp [hx])
    have h1 := hok t (by simp)
    rw [txt_cons] at hc ⊢
    cases t with
    | ch c =>
      have ih := strip_go ts cs (pre ++ [c]) st (by rw [hc]; simp [Tk.text]) ho (by simp; omega) hok'
      show (stripRes cs ((escItems false pre.length (c :: txt ts)).foldl _ st)).flatten = _
      rw [esc_ch h1.1, List.foldl_cons]
      have e : stripStep cs st (pre.length, [c]) = st := by unfold stripStep; rw [if_neg]; simp; exact h1.2
      rw [e]
      rw [List.length_append] at ih
      rw [show pre.length + 1 = pre.length + [c].length from rfl, ih, List.drop_append_of_le_length hs]
      rw [show plains (Tk.ch c :: ts) = Tk.ch c :: plains ts from rfl, txt_cons]
      simp [Tk.text]
    | bs c =>
      have ih := strip_go ts cs (pre ++ [92, c]) st (by rw [hc]; simp [Tk.text]) ho (by simp; omega) hok'
      show (stripRes cs ((escItems false pre.length (92 :: c :: txt ts)).foldl _ st)).flatten = _
      rw [esc_bs, List.foldl_cons]
      have e : stripStep cs st (pre.length + 1, [92, c]) = st := by unfold stripStep; rw [if_neg]; simp
      rw [e]
      rw [List.length_append] at ih
      rw [show pre.length + 2 = pre.length + [92, c].length from rfl, ih, List.drop_append_of_le_length hs]
      rw [show plains (Tk.bs c :: ts) = Tk.bs c :: plains ts from rfl, txt_cons]
      simp [Tk.text]
    | quo =>
      show (stripRes cs ((escItems false pre.length (34 :: 41 :: 34 :: txt ts)).foldl _ st)).flatten = _
      rw [esc_ch (by decide), esc_ch (by decide), esc_ch (by decide), List.foldl_cons, List.foldl_cons, List.foldl_cons]
      have e1 : stripStep cs st (pre.length, [34]) = ⟨st.start, some pre.length, st.res⟩ := by unfold stripStep; rw [if_pos rfl, ho]
      have e2 : stripStep cs ⟨st.start, some pre.length, st.res⟩ (pre.length + 1, [41]) = ⟨st.start, some pre.length, st.res⟩ := by unfold stripStep; rw [if_neg]; simp
      have e3 : stripStep cs ⟨st.start, some pre.length, st.res⟩ (pre.length + 1 + 1, [34]) = ⟨pre.length + 3, none, if st.start = pre.length then st.res else st.res ++ [(cs.drop st.start).take (pre.length - st.start)]⟩ := by
        unfold stripStep; rw [if_pos rfl]
      rw [e1, e2, e3]
      have ih := strip_go ts cs (pre ++ [34, 41, 34]) ⟨pre.length + 3, none, if st.start = pre.length then st.res else st.res ++ [(cs.drop st.start).take (pre.length - st.start)]⟩ (by rw [hc]; simp [Tk.text]) rfl (by simp) hok'
      rw [List.length_append] at ih
      refine Eq.trans ih ?_
      have e4 : (pre ++ [34, 41, 34]).drop (pre.length + 3) = [] := List.drop_eq_nil_of_le (by simp)
      show (if st.start = pre.length then st.res else _).flatten ++ (pre ++ [34, 41, 34]).drop (pre.length + 3) ++ _ = _
      rw [e4, List.append_nil]
      have e5 : plains (Tk.quo :: ts) = plains ts := rfl
      rw [e5]
      congr 1
      by_cases h : st.start = pre.length
      · rw [if_pos h, h]; simp
      · rw [if_neg h, hc, List.drop_append_of_le_length hs, List.take_append_of_le_length (by simp), List.take_of_length_le (by simp)]
        simp

theorem quo_none : ∀ {ts : List Tk}, 34 ∉ txt ts → ∀ t ∈ ts, t.isPlain = true
  | [], _, t, h => by cases h
  | t :: ts, hn, x, hx => by
    rw [txt_cons, List.mem_append, not_or] at hn
    rcases List.mem_cons.mp hx with rfl | hx
    · cases x with
      | quo => exact absurd (by simp [Tk.text]) hn.1
      | _ => rfl
    · exact quo_none hn.2 x hx

theorem strip_txt {ts : List Tk} (h : ∀ t ∈ ts, t.Ok) : stripPure (txt ts) = txt (plains ts) := by
  unfold stripPure
  split
  · have := strip_go ts (txt ts) [] ⟨0, none, []⟩ rfl rfl (by simp) h
    unfold stripAll
    simpa using this
  · rename_i hn
    rw [plains, List.filter_eq_self.mpr (quo_none hn)]

theorem units_txt {ts : List Tk} (h : ∀ t ∈ ts, t.Ok) : unitsP (txt ts) = (plains ts).map Tk.text := by
  unfold unitsP
  rw [strip_txt h]
  exact esc_units _ 0 (fun t ht => h t (List.mem_filter.mp ht).1) fun t ht => (List.mem_filter.mp ht).2
theorem check_txt {ts : List Tk} (h : ∀ t ∈ ts, t.Ok) : checkPure (txt ts) = checkRun 0 ((plains ts).map Tk.text) := by
  rw [← units_txt h]; rfl

theorem plains_of {ts : List Tk} (h : ∀ t ∈ ts, t.isPlain = true) : plains ts = ts := List.filter_eq_self.mpr h

/-! ## brackets -/
/-- never below where it began -/
noncomputable def Up (ts : List Tk) : Prop := ∀ (n : Nat) (m : Int), 0 ≤ m → ∃ d, m ≤ d ∧ ∀ r, checkRun m ((ts.take n).map Tk.text ++ r) = checkRun d r
/-- back where it began -/
noncomputable def Flat (ts : List Tk) : Prop := ∀ (m : Int), 0 ≤ m → ∀ r, checkRun m (ts.map Tk.text ++ r) = checkRun m r
structure Bal (ts : List Tk) : Prop where
  up : Up ts
  flat : Flat ts
theorem Bal.nil : Bal [] := ⟨fun n m _ => ⟨m, Int.le_refl _, fun r => by simp⟩, fun m _ r => by simp⟩
theorem Bal.append {a b : List Tk} (x : Bal a) (y : Bal b) : Bal (a ++ b) := by
  refine ⟨fun n m hm => ?_, fun m hm r => ?_⟩
  · rcases Nat.le_total n a.length with h | h
    · obtain ⟨d, h1, h2⟩ := x.up n m hm
      exact ⟨d, h1, fun r => by rw [List.take_append_of_le_length h]; exact h2 r⟩
    · obtain ⟨d, h1, h2⟩ := y.up (n - a.length) m hm
      refine ⟨d, h1, fun r => ?_⟩
      rw [List.take_append, List.take_of_length_le h, List.map_append, List.append_assoc, x.flat m hm]
      exact h2 r
  · rw [List.map_append, List.append_assoc, x.flat m hm, y.flat m hm]
theorem Bal.atom {t : Tk} (h1 : t.text ≠ [40]) (h2 : t.text ≠ [41]) : Bal [t] := by
  have key : ∀ m r, checkRun m (t.text :: r) = checkRun m r := fun m r => by rw [checkRun, if_neg h1, if_neg h2]
  refine ⟨fun n m hm => ⟨m, Int.le_refl _, fun r => ?_⟩, fun m hm r => ?_⟩
  · cases n with
    | zero => simp
    | succ n => simp [key]
  · simp [key]
theorem cr_open (m : Int) (r : List (List Nat)) : checkRun m ([40] :: r) = checkRun (m + 1) r := by rw [checkRun, if_pos rfl]
theorem cr_close {m : Int} (h : 1 ≤ m) (r : List (List Nat)) : checkRun m ([41] :: r) = checkRun (m - 1) r := by
  rw [checkRun, if_neg (by decide), if_pos rfl, if_neg (by omega)]
noncomputable def grp (ts : List Tk) : List Tk := .ch 40 :: (ts ++ [.ch 41])
theorem Bal.group {ts : List Tk} (x : Bal ts) : Bal (grp ts) := by
  refine ⟨fun n m hm => ?_, fun m hm r => ?_⟩
  · cases n with
    | zero => exact ⟨m, Int.le_refl _, fun r => by simp⟩
    | succ n =>
      rcases Nat.lt_or_ge ts.length n with h | h
      · refine ⟨m, Int.le_refl _, fun r => ?_⟩
        have e : (grp ts).take (n + 1) = grp ts := List.take_of_length_le (by simp [grp]; omega)
        rw [e]
        unfold grp
        rw [List.map_cons, List.map_append, List.cons_append, List.append_assoc]
        show checkRun m ([40] :: _) = _
        rw [cr_open, x.flat (m + 1) (by omega)]
        show checkRun (m + 1) ([41] :: r) = _
        rw [cr_close (by omega)]
        congr 1; omega
      · obtain ⟨d, h1, h2⟩ := x.up n (m + 1) (by omega)
        refine ⟨d, by omega, fun r => ?_⟩
        unfold grp
        rw [List.take_succ_cons, List.take_append_of_le_length h, List.map_cons, List.cons_append]
        show checkRun m ([40] :: _) = _
        rw [cr_open]; exact h2 r
  · unfold grp
    rw [List.map_cons, List.map_append, List.cons_append, List.append_assoc]
    show checkRun m ([40] :: _) = _
    rw [cr_open, x.flat (m + 1) (by omega)]
    show checkRun (m + 1) ([41] :: r) = _
    rw [cr_close (by omega)]
    congr 1; omega
theorem Bal.check {ts : List Tk} (x : Bal ts) : checkRun 0 (ts.map Tk.text) = true := by
  have := x.flat 0 (Int.le_refl _) []
  rw [List.append_nil] at this
  rw [this]; rfl

structure Pl (ts : List Tk) : Prop where
  ok : ∀ t ∈ ts, t.Ok
  pl : ∀ t ∈ ts, t.isPlain = true
theorem Pl.check {ts : List Tk} (h : Pl ts) (n : Nat) : checkPure ((ts.map Tk.text).take n).flatten = checkRun 0 ((ts.take n).map Tk.text) := by
  rw [← List.map_take]
  show checkPure (txt (ts.take n)) = _
  rw [check_txt fun t ht => h.ok t (List.mem_of_mem_take ht), plains_of fun t ht => h.pl t (List.mem_of_mem_take ht)]
theorem Pl.append {a b : List Tk} (x : Pl a) (y : Pl b) : Pl (a ++ b) :=
  ⟨fun t ht => (List.mem_append.mp ht).elim (x.ok t) (y.ok t), fun t ht => (List.mem_append.mp ht).elim (x.pl t) (y.pl t)⟩
theorem Pl.left {a b : List Tk} (x : Pl (a ++ b)) : Pl a := ⟨fun t ht => x.ok t (List.mem_append_left _ ht), fun t ht => x.pl t (List.mem_append_left _ ht)⟩

theorem sizeFrom_eq (us : List (List Nat)) (N : Nat) (hN : N ≤ us.length) (h0 : checkPure (us.take N).flatten = true) : ∀ (k n f : Nat), N = n + k → k ≤ f → (∀ j, n ≤ j → j < N → checkPure (us.take j).flatten = false) → sizeFrom us f n = N
  | 0, n, 0, hn, _, _ => by rw [sizeFrom]; omega
  | 0, n, f + 1, hn, _, _ => by
    obtain rfl : N = n := by omega
    rw [sizeFrom, if_neg]
    rw [h0]; simp
  | k + 1, n, 0, _, hf, _ => by omega
  | k + 1, n, f + 1, hn, hf, h => by
    rw [sizeFrom, if_pos ⟨by omega, h n (Nat.le_refl _) (by omega)⟩]
    exact sizeFrom_eq us N hN h0 k (n + 1) f (by omega) (by omega) fun j hj hj2 => h j (by omega) hj2

theorem size_atom {t : Tk} {ts : List Tk} (h1 : t.text ≠ [40]) (h2 : t.text ≠ [41]) (hp : Pl (t :: ts)) : sizeU (t.text :: ts.map Tk.text) = 1 := by
  unfold sizeU
  refine sizeFrom_eq _ 1 (by simp) ?_ 0 1 _ rfl (Nat.zero_le _) fun j hj hj2 => by omega
  have := hp.check 1
  rw [List.map_cons] at this
  rw [this]
  exact (Bal.atom h1 h2).check

theorem size_group {ts rest : List Tk} (x : Bal ts) (hp : Pl (grp ts ++ rest)) : sizeU ((grp ts ++ rest).map Tk.text) = ts.length + 2 := by
  unfold sizeU
  refine sizeFrom_eq _ (ts.length + 2) (by simp [grp] <;> omega) ?_ (ts.length + 1) 1 _ (by omega) (by simp [grp] <;> omega) fun j hj hj2 => ?_
  · rw [hp.check, List.take_append_of_le_length (by simp [grp]), List.take_of_length_le (by simp [grp])]
    exact x.group.check
  · rw [hp.check, List.take_append_of_le_length (by simp [grp]; omega)]
    obtain ⟨n, rfl⟩ : ∃ n, j = n + 1 := ⟨j - 1, by omega⟩
    obtain ⟨d, h1, h2⟩ := x.up n 1 (by decide)
    unfold grp
    rw [List.take_succ_cons, List.take_append_of_le_length (by omega), List.map_cons]
    show checkRun 0 ([40] :: _) = _
    rw [cr_open]
    have := h2 []
    rw [List.append_nil] at this
    show checkRun 1 _ = _
    rw [this, checkRun]
    simp; omega
end Mine
end
section
open PySem PySem.W PySem.Calls PyProof.Rows
set_option maxRecDepth 100000
set_option linter.unusedVariables false
set_option linter.unusedSimpArgs false
namespace Mine

/-! ## the plain law: what the text is read as -/
noncomputable def aheadT (n : Nat) : List Tk := [[], [.ch (hiddenP n)], [.quo], [.bs 40]].getD (n / 18 % 4) []
noncomputable def sgnT (c u : Nat) : Tk := if u = 1 then .bs c else .ch c
noncomputable def runU (d : Dr) (u : Nat) : Run := if u = 1 then undoneP (runOf d.word) else runOf d.word
noncomputable def partT (d : Dr) (at' : List Tk) : List Tk := at' ++ [sgnT d.sign d.und]

structure DrT (i : Nat) (d : Dr) (at' : List Tk) : Prop where
  sg : ∃ j, j < 9 ∧ d.sign = (signP i j).1 ∧ d.word = (signP i j).2
  und : d.und = 0 ∨ d.und = 1
  ah : txt at' = d.ahead
  kind : at' = [] ∨ (∃ h : Nat, at' = [.ch h] ∧ (h : Int) ∈ b1L ∧ h ≠ 92 ∧ h ≠ 34 ∧ h ≠ 40 ∧ h ≠ 41) ∨ at' = [.quo] ∨ at' = [.bs 40]

noncomputable def signGood (c : Nat) : Bool := c != 92 && c != 34 && c != 40 && c != 41 && decide ((c : Int) ∉ b1L)
theorem signs_good : ∀ i, i < 4 → ∀ j, j < 9 → signGood (signP i j).1 = true := by
  intro i hi j hj
  have h : ((List.range 4).all fun i => (List.range 9).all fun j => signGood (signP i j).1) = true := by decide +kernel
  exact List.all_eq_true.mp (List.all_eq_true.mp h i (List.mem_range.mpr hi)) j (List.mem_range.mpr hj)
structure SG (c : Nat) : Prop where
  n92 : c ≠ 92
  n34 : c ≠ 34
  n40 : c ≠ 40
  n41 : c ≠ 41
  b1 : (c : Int) ∉ b1L
theorem sg_of {i j : Nat} (hi : i < 4) (hj : j < 9) : SG (signP i j).1 := by
  have h := signs_good i hi j hj
  unfold signGood at h
  simp only [Bool.and_eq_true, bne_iff_ne, decide_eq_true_eq] at h
  exact ⟨h.1.1.1.1, h.1.1.1.2, h.1.1.2, h.1.2, h.2⟩
theorem hidden_good (n : Nat) : ((hiddenP n : Nat) : Int) ∈ b1L ∧ hiddenP n ≠ 92 ∧ hiddenP n ≠ 34 ∧ hiddenP n ≠ 40 ∧ hiddenP n ≠ 41 := by
  unfold hiddenP
  have h : n / 72 % 4 < 4 := Nat.mod_lt _ (by decide)
  generalize n / 72 % 4 = k at h
  rcases k with _ | _ | _ | _ | k
  · decide
  · decide
  · decide
  · decide
  · omega
theorem drT_drawn (i n : Nat) : DrT i (drawnP i n) (aheadT n) := by
  refine ⟨⟨n / 2 % 9, Nat.mod_lt _ (by decide), rfl, rfl⟩, ?_, ?_, ?_⟩
  · show n % 2 = 0 ∨ n % 2 = 1
    omega
  · show txt (aheadT n) = aheadP n
    unfold aheadT aheadP
    have h : n / 18 % 4 < 4 := Nat.mod_lt _ (by decide)
    generalize n / 18 % 4 = k at h
    rcases k with _ | _ | _ | _ | k
    · rfl
    · rfl
    · rfl
    · rfl
    · omega
  · unfold aheadT
    have h : n / 18 % 4 < 4 := Nat.mod_lt _ (by decide)
    generalize n / 18 % 4 = k at h
    rcases k with _ | _ | _ | _ | k
    · exact .inl rfl
    · exact .inr (.inl ⟨_, rfl, hidden_good n⟩)
    · exact .inr (.inr (.inl rfl))
    · exact .inr (.inr (.inr rfl))
    · omega

theorem sgn_plain (c u : Nat) : (sgnT c u).isPlain = true := by unfold sgnT; split <;> rfl
theorem sgn_ok {c : Nat} (h : SG c) (u : Nat) : (sgnT c u).Ok := by unfold sgnT; split; exact h.n34; exact ⟨h.n92, h.n34⟩
theorem sgn_n40 {c : Nat} (h : SG c) (u : Nat) : (sgnT c u).text ≠ [40] := by unfold sgnT; split; simp [Tk.text]; simpa [Tk.text] using h.n40
theorem sgn_n41 {c : Nat} (h : SG c) (u : Nat) : (sgnT c u).text ≠ [41] := by unfold sgnT; split; simp [Tk.text]; simpa [Tk.text] using h.n41
theorem sgn_unit (c u : Nat) : (sgnT c u).text = unitP c (u : Int) := by
  unfold sgnT unitP
  by_cases h : u = 1
  · subst h; rfl
  · rw [if_neg h, if_neg (by omega)]; rfl

section
variable {i : Nat}
/-- what stands in ts is read as out, whatever follows -/
noncomputable def Parses (i k : Nat) (ts : List Tk) (out : List Run) : Prop := ∀ r out', Pl r → Items i k (r.map Tk.text) out' → Items i k ((plains ts ++ r).map Tk.text) (out ++ out')
structure Good (i k : Nat) (ts : List Tk) (out : List Run) : Prop where
  ok : ∀ t ∈ ts, t.Ok
  bal : Bal (plains ts)
  parses : Parses i k ts out
theorem Good.pl {k : Nat} {ts : List Tk} {out : List Run} (x : Good i k ts out) : Pl (plains ts) := ⟨fun t ht => x.ok t (List.mem_filter.mp ht).1, fun t ht => (List.mem_filter.mp ht).2⟩
theorem Good.append {k : Nat} {a b : List Tk} {oa ob : List Run} (x : Good i k a oa) (y : Good i k b ob) : Good i k (a ++ b) (oa ++ ob) := by
  refine ⟨fun t ht => (List.mem_append.mp ht).elim (x.ok t) (y.ok t), ?_, fun r out' hr h => ?_⟩
  · rw [plains, List.filter_append]; exact x.bal.append y.bal
  · rw [plains, List.filter_append, List.append_assoc, List.append_assoc]
    exact x.parses _ _ (y.pl.append hr) (y.parses r out' hr h)

theorem good_nil {k : Nat} : Good i k [] [] := ⟨(fun t ht => by cases ht), Bal.nil, fun r out' _ h => h⟩
theorem good_quo {k : Nat} : Good i k [.quo] [] := ⟨fun t ht => by
  obtain rfl := List.mem_singleton.mp ht; exact trivial, Bal.nil, fun r out' _ h => h⟩
theorem good_skip {k : Nat} {t : Tk} (ho : t.Ok) (hp : t.isPlain = true) (h40 : t.text ≠ [40]) (h41 : t.text ≠ [41]) (hl : lastN t.text = 40 ∨ (lastN t.text : Int) ∈ b1L) : Good i k [t] [] := by
  have e : plains [t] = [t] := plains_of fun x hx => by obtain rfl := List.mem_singleton.mp hx; exact hp
  refine ⟨fun x hx => by obtain rfl := List.mem_singleton.mp hx; exact ho, by rw [e]; exact Bal.atom h40 h41, fun r out' hr h => ?_⟩
  rw [e]
  have hpl : Pl (t :: r) := ⟨fun x hx => by
    rcases List.mem_cons.mp hx with rfl | hx
    · exact ho
    · exact hr.ok x hx, fun x hx => by
    rcases List.mem_cons.mp hx with rfl | hx
    · exact hp
    · exact hr.pl x hx⟩
  exact Items.skip (size_atom h40 h41 hpl) hl h
theorem good_ahead {k : Nat} {d : Dr} {at' : List Tk} (D : DrT i d at') : Good i k at' [] := by
  rcases D.kind with rfl | ⟨h, rfl, h1, h2, h3, h4, h5⟩ | rfl | rfl
  · exact good_nil
  · exact good_skip ⟨h2, h3⟩ rfl (by simpa [Tk.text] using h4) (by simpa [Tk.text] using h5) (.inr h1)
  · exact good_quo
  · exact good_skip (t := .bs 40) (show (40 : Nat) ≠ 34 by decide) rfl (by simp [Tk.text]) (by simp [Tk.text]) (.inl rfl)

theorem good_sgn {k : Nat} (hi : i < 4) {d : Dr} {at' : List Tk} (D : DrT i d at') (u : Nat) : Good i k [sgnT d.sign u] [runU d u] := by
  refine Classical.byContradiction fun hNo => ?_
  obtain ⟨j, hj, hs, hw⟩ := D.sg
  refine hNo ?_
  clear hNo
  have sg : SG d.sign := hs ▸ sg_of hi hj
  have e : plains [sgnT d.sign u] = [sgnT d.sign u] := plains_of fun x hx => by obtain rfl := List.mem_singleton.mp hx; exact sgn_plain _ _
  refine ⟨fun x hx => by obtain rfl := List.mem_singleton.mp hx; exact sgn_ok sg u, by rw [e]; exact Bal.atom (sgn_n40 sg u) (sgn_n41 sg u), fun r out' hr h => ?_⟩
  rw [e]
  have hpl : Pl (sgnT d.sign u :: r) := ⟨fun x hx => by
    rcases List.mem_cons.mp hx with rfl | hx
    · exact sgn_ok sg u
    · exact hr.ok x hx, fun x hx => by
    rcases List.mem_cons.mp hx with rfl | hx
    · exact sgn_plain _ _
    · exact hr.pl x hx⟩
  have hl : lastN (sgnT d.sign u).text = d.sign := by unfold sgnT; split <;> rfl
  have key := Items.one (i := i) (d := k) (u := (sgnT d.sign u).text) (us := r.map Tk.text) (rest := out') (j := j) (size_atom (sgn_n40 sg u) (sgn_n41 sg u) hpl) hj (hl.trans hs) (by rw [hl]; exact sg.n40) (by rw [hl]; exact sg.b1) h
  have e2 : (if (sgnT d.sign u).text.length = 2 then undoneP (runOf (signP i j).2) else runOf (signP i j).2) = runU d u := by
    unfold runU sgnT
    rw [hw]
    by_cases hu : u = 1
    · rw [if_pos hu, if_pos hu]; rfl
    · rw [if_neg hu, if_neg hu]; rfl
  rw [e2] at key
  exact key
theorem good_part {k : Nat} (hi : i < 4) {d : Dr} {at' : List Tk} (D : DrT i d at') : Good i k (partT d at') [runU d d.und] := (good_ahead D).append (good_sgn hi D d.und)

noncomputable def commP (a b : Run) : Run := a ++ b ++ undoneP a ++ undoneP b
theorem plains_grp (ts : List Tk) : plains (grp ts) = grp (plains ts) := by
  show plains (Tk.ch 40 :: (ts ++ [.ch 41])) = _
  rw [show plains (Tk.ch 40 :: (ts ++ [.ch 41])) = Tk.ch 40 :: plains (ts ++ [.ch 41]) from rfl, plains, List.filter_append]
  rfl
theorem good_grp {k : Nat} {ts : List Tk} {f g : Run} (x : Good i k ts [f, g]) (hf : f.length ≤ 500) (hg : g.length ≤ 500) : Good i (k + 1) (grp ts) [commP f g] := by
  have okg : ∀ t ∈ grp ts, t.Ok := fun t ht => by
    unfold grp at ht
    rcases List.mem_cons.mp ht with rfl | ht
    · exact ⟨by decide, by decide⟩
    · rcases List.mem_append.mp ht with ht | ht
      · exact x.ok t ht
      · obtain rfl := List.mem_singleton.mp ht; exact ⟨by decide, by decide⟩
  refine ⟨okg, by rw [plains_grp]; exact x.bal.group, fun r out' hr h => ?_⟩
  have hplg : Pl (plains (grp ts) ++ r) := Pl.append ⟨fun t ht => okg t (List.mem_filter.mp ht).1, fun t ht => (List.mem_filter.mp ht).2⟩ hr
  rw [plains_grp] at hplg ⊢
  have hsz := size_group x.bal hplg
  have inner := x.parses [] [] ⟨(fun t ht => by cases ht), (fun t ht => by cases ht)⟩ Items.nil
  rw [List.append_nil, List.append_nil] at inner
  have e1 : (grp (plains ts) ++ r).map Tk.text = [40] :: ((plains ts).map Tk.text ++ ([41] :: r.map Tk.text)) := by
    unfold grp; simp [Tk.text]
  rw [e1] at hsz ⊢
  refine Items.pair (n := (plains ts).length + 2) hsz (by omega) ?_ hf hg ?_
  · rw [Nat.add_sub_cancel, List.take_append_of_le_length (by simp), List.take_of_length_le (by simp)]
    exact inner
  · rw [List.drop_succ_cons, List.drop_append, List.drop_eq_nil_of_le (by simp)]
    simpa using h

/-! ## the whole text -/
structure DT where
  d : Dr
  at' : List Tk
noncomputable def coreT (left : Bool) (a b c : List Tk) : List Tk := if left then grp (grp (a ++ b) ++ c) else grp (a ++ grp (b ++ c))
noncomputable def coreR (left : Bool) (a b c : Run) : Run := if left then commP (commP a b) c else commP a (commP b c)
noncomputable def wrapT (ts : List Tk) (x : DT) : List Tk := partT x.d x.at' ++ ts ++ [sgnT x.d.sign (1 - x.d.und)]
noncomputable def wrapO (out : List Run) (x : DT) : List Run := [runU x.d x.d.und] ++ out ++ [runU x.d (1 - x.d.und)]

theorem txt_grp (ts : List Tk) : txt (grp ts) = [40] ++ txt ts ++ [41] := by
  unfold grp; rw [txt_cons, txt_append]; simp [Tk.text, txt]
theorem txt_part {d : Dr} {at' : List Tk} (h : txt at' = d.ahead) : txt (partT d at') = partP d := by
  unfold partT partP
  rw [txt_append, h, ← sgn_unit]; simp [txt]
theorem txt_core (left : Bool) (a b c : List Tk) : txt (coreT left a b c) = coreP left (txt a) (txt b) (txt c) := by
  unfold coreT coreP
  cases left <;> simp [txt_grp, txt_append]
theorem txt_wrap {ts : List Tk} {x : DT} (h : txt x.at' = x.d.ahead) (hu : x.d.und = 0 ∨ x.d.und = 1) : txt (wrapT ts x) = wrapP (txt ts) x.d := by
  unfold wrapT wrapP
  rw [txt_append, txt_append, txt_part h]
  have e : txt [sgnT x.d.sign (1 - x.d.und)] = unitP x.d.sign (1 - (x.d.und : Int)) := by
    rw [show (1 - (x.d.und : Int)) = ((1 - x.d.und : Nat) : Int) by omega, ← sgn_unit]; simp [txt]
  rw [e]; rfl

theorem txt_wraps : ∀ (xs : List DT), (∀ x ∈ xs, DrT i x.d x.at') → ∀ ts, txt (xs.foldl wrapT ts) = (xs.map DT.d).foldl wrapP (txt ts)
  | [], _, ts => rfl
  | x :: xs, h, ts => by
    have D := h x (by simp)
    rw [List.foldl_cons, List.map_cons, List.foldl_cons, txt_wraps xs (fun y hy => h y (by simp [hy])), txt_wrap D.ah D.und]

theorem good_wraps (hi : i < 4) {k : Nat} : ∀ (xs : List DT), (∀ x ∈ xs, DrT i x.d x.at') → ∀ ts out, Good i k ts out → Good i k (xs.foldl wrapT ts) (xs.foldl wrapO out)
  | [], _, ts, out, g => g
  | x :: xs, h, ts, out, g => by
    have D := h x (by simp)
    rw [List.foldl_cons, List.foldl_cons]
    exact good_wraps hi xs (fun y hy => h y (by simp [hy])) _ _ (((good_part hi D).append g).append (good_sgn hi D _))

theorem good_core (hi : i < 4) (left : Bool) {a b c : DT} (ha : DrT i a.d a.at') (hb : DrT i b.d b.at') (hc : DrT i c.d c.at')
    (la : (runU a.d a.d.und).length ≤ 20) (lb : (runU b.d b.d.und).length ≤ 20) (lc : (runU c.d c.d.und).length ≤ 20) :
    Good i 2 (coreT left (partT a.d a.at') (partT b.d b.at') (partT c.d c.at')) [coreR left (runU a.d a.d.und) (runU b.d b.d.und) (runU c.d c.d.und)] := by
  have lu : ∀ r : Run, (undoneP r).length = r.length := fun r => by simp [undoneP]
  have lc2 : ∀ f g : Run, (commP f g).length = 2 * (f.length + g.length) := fun f g => by simp [commP, lu]; omega
  cases left with
  | true =>
    exact good_grp ((good_grp ((good_part hi ha).append (good_part hi hb)) (by omega) (by omega)).append (good_part hi hc)) (by rw [lc2]; omega) (by omega)
  | false =>
    exact good_grp ((good_part hi ha).append (good_grp ((good_part hi hb).append (good_part hi hc)) (by omega) (by omega))) (by omega) (by rw [lc2]; omega)

noncomputable def outP (left : Bool) (a b c : DT) (xs : List DT) : List Run := xs.foldl wrapO [coreR left (runU a.d a.d.und) (runU b.d b.d.und) (runU c.d c.d.und)]
theorem parse (hi : i < 4) (left : Bool) {a b c : DT} {xs : List DT} (ha : DrT i a.d a.at') (hb : DrT i b.d b.at') (hc : DrT i c.d c.at') (hx : ∀ x ∈ xs, DrT i x.d x.at')
    (la : (runU a.d a.d.und).length ≤ 20) (lb : (runU b.d b.d.und).length ≤ 20) (lc : (runU c.d c.d.und).length ≤ 20) :
    checkPure (textP left (a.d :: b.d :: c.d :: xs.map DT.d)) = true ∧ checkPure ([41] ++ textP left (a.d :: b.d :: c.d :: xs.map DT.d) ++ [40]) = false ∧
      Items i 2 (unitsP (textP left (a.d :: b.d :: c.d :: xs.map DT.d))) (outP left a b c xs) := by
  have G := good_wraps (k := 2) hi xs hx _ _ (good_core hi left ha hb hc la lb lc)
  have e : textP left (a.d :: b.d :: c.d :: xs.map DT.d) = txt (xs.foldl wrapT (coreT left (partT a.d a.at') (partT b.d b.at') (partT c.d c.at'))) := by
    rw [txt_wraps xs hx, txt_core, txt_part ha.ah, txt_part hb.ah, txt_part hc.ah]; rfl
  rw [e]
  generalize xs.foldl wrapT _ = ts at G
  refine ⟨?_, ?_, ?_⟩
  · rw [check_txt G.ok]; exact G.bal.check
  · have e2 : [41] ++ txt ts ++ [40] = txt (Tk.ch 41 :: (ts ++ [.ch 40])) := by rw [txt_cons, txt_append]; simp [Tk.text, txt]
    rw [e2, check_txt]
    · show checkRun 0 ([41] :: _) = false
      rw [checkRun, if_neg (by decide), if_pos rfl, if_pos (by decide)]
    · intro t ht
      rcases List.mem_cons.mp ht with rfl | ht
      · exact ⟨by decide, by decide⟩
      · rcases List.mem_append.mp ht with ht | ht
        · exact G.ok t ht
        · obtain rfl := List.mem_singleton.mp ht; exact ⟨by decide, by decide⟩
  · rw [units_txt G.ok]
    have := G.parses [] [] ⟨(fun t ht => by cases ht), (fun t ht => by cases ht)⟩ Items.nil
    rw [List.append_nil, List.append_nil] at this
    exact this
end
end Mine
end
section
open PySem PySem.W PySem.Calls PyProof.Rows
set_option maxRecDepth 100000
set_option linter.unusedVariables false
set_option linter.unusedSimpArgs false
namespace Mine

/-! ## series up to the third degree -/
structure Ser where
  c0 : Int
  c1 : Nat → Int
  c2 : Nat → Nat → Int
  c3 : Nat → Nat → Nat → Int
noncomputable def Ser.mul (x y : Ser) : Ser :=
  ⟨x.c0 * y.c0, fun a => x.c0 * y.c1 a + x.c1 a * y.c0, fun a b => x.c0 * y.c2 a b + x.c1 a * y.c1 b + x.c2 a b * y.c0,
   fun a b c => x.c0 * y.c3 a b c + x.c1 a * y.c2 b c + x.c2 a b * y.c1 c + x.c3 a b c * y.c0⟩
noncomputable def Ser.one : Ser := ⟨1, fun _ => 0, fun _ _ => 0, fun _ _ _ => 0⟩
noncomputable def Ser.add (x y : Ser) : Ser := ⟨x.c0 + y.c0, fun a => x.c1 a + y.c1 a, fun a b => x.c2 a b + y.c2 a b, fun a b c => x.c3 a b c + y.c3 a b c⟩
theorem Ser.ext' {x y : Ser} (h0 : x.c0 = y.c0) (h1 : ∀ a, x.c1 a = y.c1 a) (h2 : ∀ a b, x.c2 a b = y.c2 a b) (h3 : ∀ a b c, x.c3 a b c = y.c3 a b c) : x = y := by
  cases x; cases y
  obtain rfl := h0
  obtain rfl := funext h1
  obtain rfl := funext fun a => funext (h2 a)
  obtain rfl := funext fun a => funext fun b => funext (h3 a b)
  rfl
theorem Ser.mul_assoc (x y z : Ser) : (x.mul y).mul z = x.mul (y.mul z) := by
  refine Ser.ext' ?_ ?_ ?_ ?_ <;> intros <;> simp only [Ser.mul] <;> grind
theorem Ser.one_mul (x : Ser) : Ser.one.mul x = x := by
  refine Ser.ext' ?_ ?_ ?_ ?_ <;> intros <;> simp [Ser.mul, Ser.one]
theorem Ser.mul_one (x : Ser) : x.mul Ser.one = x := by
  refine Ser.ext' ?_ ?_ ?_ ?_ <;> intros <;> simp [Ser.mul, Ser.one]

/-- one letter behind each row -/
noncomputable def Ser.sh (c : Nat) (t : Int) (x : Ser) : Ser :=
  ⟨0, fun a => if a = c then t * x.c0 else 0, fun a b => if b = c then t * x.c1 a else 0, fun a b d => if d = c then t * x.c2 a b else 0⟩
noncomputable def Ser.step (x : Ser) (p : Nat × Int) : Ser :=
  if p.2 > 0 then x.add (x.sh p.1 p.2) else ((x.add (x.sh p.1 p.2)).add ((x.sh p.1 p.2).sh p.1 p.2)).add (((x.sh p.1 p.2).sh p.1 p.2).sh p.1 p.2)
noncomputable def Lt (p : Nat × Int) : Ser := Ser.one.step p
theorem Ser.mul_add (x y z : Ser) : x.mul (y.add z) = (x.mul y).add (x.mul z) := by
  refine Ser.ext' ?_ ?_ ?_ ?_ <;> intros <;> simp only [Ser.mul, Ser.add] <;> grind
theorem ite_zero_mul (p : Prop) [d : Decidable p] (t x y : Int) : (if p then t * (x * y) else 0) = x * (if p then t * y else 0) := by
  cases d with
  | isTrue h => exact Int.mul_left_comm _ _ _
  | isFalse h => exact (Int.mul_zero x).symm
theorem ite_mul_one (p : Prop) [d : Decidable p] (t x y u v : Int) : (if p then t * (x * y + u * v) else 0) = x * (if p then t * y else 0) + u * (if p then t * v else 0) := by
  cases d with
  | isTrue h => show t * (x * y + u * v) = x * (t * y) + u * (t * v); grind
  | isFalse h => show (0 : Int) = x * 0 + u * 0; simp
theorem ite_mul_two (p : Prop) [d : Decidable p] (t x y u v q r : Int) : (if p then t * (x * y + u * v + q * r) else 0) = x * (if p then t * y else 0) + u * (if p then t * v else 0) + q * (if p then t * r else 0) := by
  cases d with
  | isTrue h => show t * (x * y + u * v + q * r) = x * (t * y) + u * (t * v) + q * (t * r); grind
  | isFalse h => show (0 : Int) = x * 0 + u * 0 + q * 0; simp
theorem Ser.mul_sh (x y : Ser) (c : Nat) (t : Int) : (x.mul y).sh c t = x.mul (y.sh c t) := by
  refine Ser.ext' (Int.mul_zero _).symm (fun a => ?_) (fun a b => ?_) (fun a b d => ?_)
  · show (if a = c then t * (x.c0 * y.c0) else 0) = x.c0 * (if a = c then t * y.c0 else 0) + x.c1 a * 0
    rw [ite_zero_mul, Int.mul_zero, Int.add_zero]
  · show (if b = c then t * (x.c0 * y.c1 a + x.c1 a * y.c0) else 0) = x.c0 * (if b = c then t * y.c1 a else 0) + x.c1 a * (if b = c then t * y.c0 else 0) + x.c2 a b * 0
    rw [ite_mul_one, Int.mul_zero, Int.add_zero]
  · show (if d = c then t * (x.c0 * y.c2 a b + x.c1 a * y.c1 b + x.c2 a b * y.c0) else 0) = x.c0 * (if d = c then t * y.c2 a b else 0) + x.c1 a * (if d = c then t * y.c1 b else 0) + x.c2 a b * (if d = c then t * y.c0 else 0) + x.c3 a b d * 0
    rw [ite_mul_two, Int.mul_zero, Int.add_zero]
theorem step_mul (x : Ser) (p : Nat × Int) : x.step p = x.mul (Lt p) := by
  unfold Lt Ser.step
  split
  · rw [Ser.mul_add, ← Ser.mul_sh, Ser.mul_one]
  · rw [Ser.mul_add, Ser.mul_add, Ser.mul_add]
    repeat rw [← Ser.mul_sh]
    rw [Ser.mul_one]
theorem lt_c0 (p : Nat × Int) : (Lt p).c0 = 1 := by unfold Lt Ser.step; split <;> rfl
theorem lt_pos (c : Nat) : Lt (c, 1) = Ser.one.add (Ser.one.sh c 1) := rfl
theorem lt_neg (c : Nat) : Lt (c, -1) = ((Ser.one.add (Ser.one.sh c (-1))).add ((Ser.one.sh c (-1)).sh c (-1))).add (((Ser.one.sh c (-1)).sh c (-1)).sh c (-1)) := rfl
theorem lt_inv (c : Nat) {t : Int} (ht : t = 1 ∨ t = -1) : (Lt (c, t)).mul (Lt (c, -t)) = Ser.one := by
  rcases ht with rfl | rfl
  · rw [lt_pos, show Lt (c, -1) = _ from lt_neg c]
    refine Ser.ext' rfl (fun a => ?_) (fun a b => ?_) (fun a b d => ?_) <;> dsimp only [Ser.mul, Ser.one, Ser.add, Ser.sh]
    · generalize instDecidableEqNat a c = e1; cases e1 <;> rfl
    · generalize instDecidableEqNat a c = e1; generalize instDecidableEqNat b c = e2; cases e1 <;> cases e2 <;> rfl
    · generalize instDecidableEqNat a c = e1; generalize instDecidableEqNat b c = e2; generalize instDecidableEqNat d c = e3; cases e1 <;> cases e2 <;> cases e3 <;> rfl
  · rw [show Lt (c, - -1) = _ from lt_pos c, lt_neg]
    refine Ser.ext' rfl (fun a => ?_) (fun a b => ?_) (fun a b d => ?_) <;> dsimp only [Ser.mul, Ser.one, Ser.add, Ser.sh]
    · generalize instDecidableEqNat a c = e1; cases e1 <;> rfl
    · generalize instDecidableEqNat a c = e1; generalize instDecidableEqNat b c = e2; cases e1 <;> cases e2 <;> rfl
    · generalize instDecidableEqNat a c = e1; generalize instDecidableEqNat b c = e2; generalize instDecidableEqNat d c = e3; cases e1 <;> cases e2 <;> cases e3 <;> rfl

noncomputable def Mg (r : Run) : Ser := r.foldl Ser.step Ser.one
theorem mg_from (r : Run) : ∀ x : Ser, r.foldl Ser.step x = x.mul (Mg r) := by
  induction r with
  | nil => intro x; exact (Ser.mul_one x).symm
  | cons p r ih =>
    intro x
    unfold Mg
    rw [List.foldl_cons, List.foldl_cons, ih, ih (Ser.one.step p), step_mul, step_mul, Ser.one_mul, Ser.mul_assoc]
theorem mg_append (a b : Run) : Mg (a ++ b) = (Mg a).mul (Mg b) := by
  unfold Mg; rw [List.foldl_append]; exact mg_from b _
theorem mg_one (p : Nat × Int) : Mg [p] = Lt p := by show Ser.one.step p = _; rfl
noncomputable def Turns (r : Run) : Prop := ∀ p ∈ r, p.2 = 1 ∨ p.2 = -1
theorem undone_cons (p : Nat × Int) (r : Run) : undoneP (p :: r) = undoneP r ++ [(p.1, -p.2)] := by simp [undoneP]
theorem mg_inv : ∀ (r : Run), Turns r → (Mg r).mul (Mg (undoneP r)) = Ser.one
  | [], _ => Ser.mul_one _
  | p :: r, h => by
    rw [undone_cons, mg_append, show p :: r = [p] ++ r from rfl, mg_append, mg_one, mg_one, Ser.mul_assoc, ← Ser.mul_assoc (Mg r), mg_inv r fun q hq => h q (by simp [hq]), Ser.one_mul]
    exact lt_inv p.1 (h p (by simp))
theorem undone_undone (r : Run) : undoneP (undoneP r) = r := by
  unfold undoneP
  rw [← List.map_reverse, List.reverse_reverse, List.map_map]
  simp [Function.comp_def]
theorem Turns.undone {r : Run} (h : Turns r) : Turns (undoneP r) := fun p hp => by
  unfold undoneP at hp
  obtain ⟨q, hq, rfl⟩ := List.mem_map.mp hp
  rcases h q (List.mem_reverse.mp hq) with e | e
  · right; show -q.2 = -1; rw [e]
  · left; show -q.2 = 1; rw [e]; rfl
theorem mg_inv' {r : Run} (h : Turns r) : (Mg (undoneP r)).mul (Mg r) = Ser.one := by
  have := mg_inv (undoneP r) h.undone
  rwa [undone_undone] at this
theorem mg_c0 : ∀ r : Run, (Mg r).c0 = 1
  | [] => rfl
  | p :: r => by
    rw [show p :: r = [p] ++ r from rfl, mg_append, mg_one]
    show (Lt p).c0 * (Mg r).c0 = 1
    rw [lt_c0, mg_c0 r]; rfl
theorem Turns.append {a b : Run} (x : Turns a) (y : Turns b) : Turns (a ++ b) := fun p hp => (List.mem_append.mp hp).elim (x p) (y p)
theorem Turns.comm {a b : Run} (x : Turns a) (y : Turns b) : Turns (commP a b) := ((x.append y).append x.undone).append y.undone

/-- a commutator -/
theorem mg_comm {a b : Run} (ha : Turns a) (hb : Turns b) : (Mg (commP a b)).mul ((Mg b).mul (Mg a)) = (Mg a).mul (Mg b) := by
  unfold commP
  rw [mg_append, mg_append, mg_append, Ser.mul_assoc, ← Ser.mul_assoc (Mg (undoneP b)), mg_inv' hb, Ser.one_mul, Ser.mul_assoc, mg_inv' ha, Ser.mul_one]
theorem comm_c1 {a b : Run} (ha : Turns a) (hb : Turns b) (x : Nat) : (Mg (commP a b)).c1 x = 0 := by
  have h := congrArg (fun s => s.c1 x) (mg_comm ha hb)
  simp only [Ser.mul, mg_c0] at h
  omega
theorem comm_c2 {a b : Run} (ha : Turns a) (hb : Turns b) (x y : Nat) : (Mg (commP a b)).c2 x y = (Mg a).c1 x * (Mg b).c1 y - (Mg b).c1 x * (Mg a).c1 y := by
  have h := congrArg (fun s => s.c2 x y) (mg_comm ha hb)
  simp only [Ser.mul, mg_c0, comm_c1 ha hb] at h
  grind
theorem comm_c3 {a b : Run} (ha : Turns a) (hb : Turns b) (h0 : (∀ x, (Mg a).c1 x = 0) ∨ (∀ x, (Mg b).c1 x = 0)) (x y z : Nat) :
    (Mg (commP a b)).c3 x y z = (Mg a).c1 x * (Mg b).c2 y z + (Mg a).c2 x y * (Mg b).c1 z - (Mg b).c1 x * (Mg a).c2 y z - (Mg b).c2 x y * (Mg a).c1 z := by
  have h := congrArg (fun s => s.c3 x y z) (mg_comm ha hb)
  simp only [Ser.mul, mg_c0, comm_c1 ha hb, comm_c2 ha hb] at h
  rcases h0 with h0 | h0
  · simp only [h0] at h ⊢; grind
  · simp only [h0] at h ⊢; grind
structure Third (s : Ser) (k : Nat → Nat → Nat → Int) : Prop where
  c0 : s.c0 = 1
  c1 : ∀ x, s.c1 x = 0
  c2 : ∀ x y, s.c2 x y = 0
  c3 : ∀ x y z, s.c3 x y z = k x y z
noncomputable def kern (left : Bool) (a b c : Nat → Int) (x y z : Nat) : Int :=
  if left then a x * b y * c z - b x * a y * c z - c x * a y * b z + c x * b y * a z else a x * b y * c z - a x * c y * b z - b x * c y * a z + c x * b y * a z
theorem third_core (left : Bool) {a b c : Run} (ha : Turns a) (hb : Turns b) (hc : Turns c) : Third (Mg (coreR left a b c)) (kern left (Mg a).c1 (Mg b).c1 (Mg c).c1) := by
  cases left with
  | true =>
    have hu := ha.comm hb
    have h1 := comm_c1 ha hb
    have h2 := comm_c2 ha hb
    refine ⟨mg_c0 _, comm_c1 hu hc, fun x y => ?_, fun x y z => ?_⟩
    · show (Mg (commP (commP a b) c)).c2 x y = 0
      rw [comm_c2 hu hc, h1, h1]; simp
    · show (Mg (commP (commP a b) c)).c3 x y z = kern true _ _ _ x y z
      rw [comm_c3 hu hc (.inl h1)]
      simp only [h1, h2, kern]
      simp
      grind
  | false =>
    have hu := hb.comm hc
    have h1 := comm_c1 hb hc
    have h2 := comm_c2 hb hc
    refine ⟨mg_c0 _, comm_c1 ha hu, fun x y => ?_, fun x y z => ?_⟩
    · show (Mg (commP a (commP b c))).c2 x y = 0
      rw [comm_c2 ha hu, h1, h1]; simp
    · show (Mg (commP a (commP b c))).c3 x y z = kern false _ _ _ x y z
      rw [comm_c3 ha hu (.inr h1)]
      simp only [h1, h2, kern]
      simp
      grind
theorem third_wrap {d r d' : Run} {k : Nat → Nat → Nat → Int} (h : (Mg d').mul (Mg d) = Ser.one) (x : Third (Mg r) k) : Third (Mg (d ++ r ++ d')) k := by
  have e : (Mg (d ++ r ++ d')).mul (Mg d) = (Mg d).mul (Mg r) := by
    rw [mg_append, mg_append, Ser.mul_assoc, h, Ser.mul_one]
  have e1 : ∀ a, (Mg (d ++ r ++ d')).c1 a = 0 := fun a => by
    have := congrArg (fun s => s.c1 a) e
    simp only [Ser.mul, mg_c0, x.c1] at this
    omega
  have e2 : ∀ a b, (Mg (d ++ r ++ d')).c2 a b = 0 := fun a b => by
    have := congrArg (fun s => s.c2 a b) e
    simp only [Ser.mul, mg_c0, x.c1, x.c2, e1] at this
    grind
  refine ⟨mg_c0 _, e1, e2, fun a b c => ?_⟩
  have := congrArg (fun s => s.c3 a b c) e
  simp only [Ser.mul, mg_c0, x.c1, x.c2, x.c3, e1, e2] at this
  grind
end Mine
end
section
open PySem PySem.W PySem.Calls PyProof.Rows
set_option maxRecDepth 100000
set_option linter.unusedVariables false
set_option linter.unusedSimpArgs false
namespace Mine

/-! ## rows as series -/
noncomputable def val (l : Kv) (k : Str) : Int := (getI l k).getD 0
noncomputable abbrev tx (cs : List Nat) : Str := ⟨cs.toArray⟩
noncomputable abbrev vl (l : Kv) (cs : List Nat) : Int := val l (tx cs)
noncomputable def ND (l : Kv) : Prop := (l.map (·.1)).Nodup
theorem tx_inj {a b : List Nat} (h : tx a = tx b) : a = b := by
  have := congrArg (fun s => s.cps.toList) h
  simpa using this
theorem tx_eta (k : Str) : k = tx k.cps.toList := by cases k; rfl

theorem getI_cons (p : Str × Int) (l : Kv) (k : Str) : getI (p :: l) k = if p.1 = k then some p.2 else getI l k := by
  unfold getI
  rw [List.find?_cons]
  by_cases h : p.1 = k
  · simp [h]
  · simp [h]
theorem getI_nil (k : Str) : getI [] k = none := rfl
theorem getI_append_one (l : Kv) (k k' : Str) (i : Int) (h : (l.any fun p => p.1 = k) = false) : getI (l ++ [(k, i)]) k' = if k = k' then some i else getI l k' := by
  induction l with
  | nil => simp [getI_cons, getI_nil]
  | cons p l ih =>
    rw [List.any_cons, Bool.or_eq_false_iff] at h
    rw [List.cons_append, getI_cons, getI_cons, ih h.2]
    have hp : p.1 ≠ k := by simpa using h.1
    by_cases e : p.1 = k'
    · rw [if_pos e, if_pos e, if_neg fun q => hp (e.trans q.symm)]
    · rw [if_neg e, if_neg e]
theorem getI_map_put (l : Kv) (k k' : Str) (i : Int) : getI (l.map fun p => if p.1 = k then (p.1, i) else p) k' = if k = k' then (getI l k').map fun _ => i else getI l k' := by
  induction l with
  | nil => simp [getI_nil]
  | cons p l ih =>
    rw [List.map_cons, getI_cons, getI_cons, ih]
    by_cases e : p.1 = k
    · rw [if_pos e]
      by_cases e' : p.1 = k'
      · have ek : k = k' := e.symm.trans e'
        simp [e', ek]
      · have ek : k ≠ k' := fun q => e' (e.trans q)
        simp [e', ek]
    · rw [if_neg e]
      by_cases e' : p.1 = k'
      · have ek : k ≠ k' := fun q => e (e'.trans q.symm)
        simp [e', ek]
      · simp [e']
theorem getI_some_of_any {l : Kv} {k : Str} (h : (l.any fun p => p.1 = k) = true) : ∃ v, getI l k = some v := by
  induction l with
  | nil => cases h
  | cons p l ih =>
    rw [getI_cons]
    by_cases e : p.1 = k
    · exact ⟨p.2, if_pos e⟩
    · rw [if_neg e]
      rw [List.any_cons, Bool.or_eq_true] at h
      exact ih (h.resolve_left (by simpa using e))
theorem getI_put (l : Kv) (k : Str) (i : Int) (k' : Str) : getI (putI l k i) k' = if k = k' then some i else getI l k' := by
  unfold putI
  cases h : l.any fun p => p.1 = k with
  | true =>
    rw [if_pos rfl, getI_map_put]
    by_cases e : k = k'
    · subst e
      obtain ⟨v, hv⟩ := getI_some_of_any h
      simp [hv]
    · simp [e]
  | false => rw [if_neg (by decide)]; exact getI_append_one l k k' i h
theorem val_put (l : Kv) (k : Str) (i : Int) (k' : Str) : val (putI l k i) k' = if k = k' then i else val l k' := by
  unfold val; rw [getI_put]; split <;> rfl
theorem nd_put {l : Kv} (h : ND l) (k : Str) (i : Int) : ND (putI l k i) := by
  unfold ND
  rw [putI_keys]
  split
  · exact h
  · rename_i hn
    rw [List.nodup_append]
    exact ⟨h, by simp, fun a ha b hb e => hn (by simp only [List.mem_singleton] at hb; rw [← hb, ← e]; exact ha)⟩
theorem nd_cons {p : Str × Int} {l : Kv} : ND (p :: l) ↔ p.1 ∉ l.map (·.1) ∧ ND l := by
  unfold ND; rw [List.map_cons, List.nodup_cons]
theorem getI_none {l : Kv} {k : Str} (h : k ∉ l.map (·.1)) : getI l k = none := by
  induction l with
  | nil => rfl
  | cons p l ih =>
    rw [List.map_cons, List.mem_cons, not_or] at h
    rw [getI_cons, if_neg (Ne.symm h.1), ih h.2]
theorem val_none {l : Kv} {k : Str} (h : k ∉ l.map (·.1)) : val l k = 0 := by unfold val; rw [getI_none h]; rfl

theorem val_addRow (acc : Kv) (p : Str × Int) (k : Str) : val (addRow acc p) k = val acc k + if p.1 = k then p.2 else 0 := by
  unfold addRow
  split
  · rename_i i hi
    rw [val_put]
    by_cases e : p.1 = k
    · rw [if_pos e, if_pos e]; unfold val; rw [← e, hi]; rfl
    · rw [if_neg e, if_neg e]; omega
  · rename_i hi
    rw [val_put]
    by_cases e : p.1 = k
    · rw [if_pos e, if_pos e]; unfold val; rw [← e, hi]; simp
    · rw [if_neg e, if_neg e]; omega
theorem nd_addRow {acc : Kv} (h : ND acc) (p : Str × Int) : ND (addRow acc p) := by
  unfold addRow; split <;> exact nd_put h _ _
theorem nd_addRows : ∀ {b acc : Kv}, ND acc → ND (addRows acc b)
  | [], _, h => h
  | p :: b, acc, h => nd_addRows (b := b) (nd_addRow h p)
theorem val_addRows : ∀ (b acc : Kv) (k : Str), ND b → val (addRows acc b) k = val acc k + val b k
  | [], acc, k, _ => by simp [addRows, val, getI_nil]
  | p :: b, acc, k, h => by
    rw [nd_cons] at h
    show val (addRows (addRow acc p) b) k = _
    rw [val_addRows b _ k h.2, val_addRow]
    have e : val (p :: b) k = (if p.1 = k then p.2 else 0) + val b k := by
      unfold val
      rw [getI_cons]
      by_cases e : p.1 = k
      · rw [if_pos e, if_pos e, getI_none (by rw [← e]; exact h.1)]; simp
      · rw [if_neg e, if_neg e]; simp
    rw [e]; omega

theorem nextRow_other {c : Nat} {t : Int} {acc : Kv} {p : Str × Int} {k : Str} (h : p.1.length < 3 → p.1 ++ ⟨#[c]⟩ ≠ k) : val (nextRow c t acc p) k = val acc k := by
  unfold nextRow
  split
  · rename_i hl
    rw [val_put, if_neg (h hl)]
  · rfl
theorem nextRows_other {c : Nat} {t : Int} : ∀ {rows acc : Kv} {k : Str}, (∀ p ∈ rows, p.1.length < 3 → p.1 ++ ⟨#[c]⟩ ≠ k) → val (rows.foldl (nextRow c t) acc) k = val acc k
  | [], _, _, _ => rfl
  | p :: rows, acc, k, h => by
    rw [List.foldl_cons, nextRows_other fun q hq => h q (by simp [hq]), nextRow_other (h p (by simp))]
theorem app_inj {a b : Str} {c d : Nat} (h : a ++ (⟨#[c]⟩ : Str) = b ++ (⟨#[d]⟩ : Str)) : a = b ∧ c = d := by
  rw [tx_eta a, tx_eta b, show (⟨#[c]⟩ : Str) = ⟨[c].toArray⟩ from rfl, show (⟨#[d]⟩ : Str) = ⟨[d].toArray⟩ from rfl, strApp, strApp] at h
  have := tx_inj h
  have := List.append_inj' this rfl
  obtain ⟨h1, h2⟩ := this
  refine ⟨?_, by simpa using h2⟩
  rw [tx_eta a, tx_eta b, h1]
theorem nextRows_at {c : Nat} {t : Int} {q : Str} (hq : q.length < 3) : ∀ {rows acc : Kv}, ND rows → val (rows.foldl (nextRow c t) acc) (q ++ ⟨#[c]⟩) = match getI rows q with | some v => t * v | none => val acc (q ++ ⟨#[c]⟩)
  | [], acc, _ => rfl
  | p :: rows, acc, h => by
    rw [nd_cons] at h
    rw [List.foldl_cons, getI_cons]
    by_cases e : p.1 = q
    · rw [if_pos e, nextRows_other]
      · unfold nextRow
        rw [if_pos (by rw [e]; exact hq), e, val_put, if_pos rfl]
      · intro r hr _ er
        have := (app_inj er).1
        exact h.1 (List.mem_map.mpr ⟨r, hr, this.trans e.symm⟩)
    · rw [if_neg e, nextRows_at hq h.2]
      cases getI rows q with
      | some v => rfl
      | none =>
        show val (nextRow c t acc p) _ = _
        exact nextRow_other fun _ er => e (app_inj er).1
theorem nd_nextRow {c : Nat} {t : Int} {acc : Kv} (h : ND acc) (p : Str × Int) : ND (nextRow c t acc p) := by
  unfold nextRow; split
  · exact nd_put h _ _
  · exact h
theorem nd_nextGo {c : Nat} {t : Int} : ∀ {rows acc : Kv}, ND acc → ND (rows.foldl (nextRow c t) acc)
  | [], _, h => h
  | p :: rows, _, h => nd_nextGo (rows := rows) (nd_nextRow h p)
theorem nd_nil : ND [] := by unfold ND; simp
theorem nd_nextRows (c : Nat) (t : Int) (rows : Kv) : ND (nextRows c t rows) := nd_nextGo nd_nil
theorem vl_next_nil (c : Nat) (t : Int) (rows : Kv) : vl (nextRows c t rows) [] = 0 := by
  unfold nextRows
  rw [vl, nextRows_other]
  · rfl
  · intro p _ _ h
    rw [tx_eta p.1, show (⟨#[c]⟩ : Str) = ⟨[c].toArray⟩ from rfl, strApp] at h
    have := tx_inj h
    simp at this
theorem vl_next {c : Nat} {t : Int} {rows : Kv} (h : ND rows) (ks : List Nat) (a : Nat) (hl : ks.length < 3) : vl (nextRows c t rows) (ks ++ [a]) = if a = c then t * vl rows ks else 0 := by
  have e : tx (ks ++ [a]) = tx ks ++ ⟨#[a]⟩ := by rw [show (⟨#[a]⟩ : Str) = ⟨[a].toArray⟩ from rfl, strApp]
  unfold nextRows
  rw [vl, e]
  by_cases hc : a = c
  · subst hc
    rw [if_pos rfl, nextRows_at (by rw [strLen]; exact hl) h]
    unfold vl val
    cases getI rows (tx ks) with
    | some v => rfl
    | none => simp [getI_nil]
  · rw [if_neg hc, nextRows_other]
    · rfl
    · intro p _ _ h
      exact hc (app_inj h).2.symm

noncomputable def ser (l : Kv) : Ser := ⟨vl l [], fun a => vl l [a], fun a b => vl l [a, b], fun a b c => vl l [a, b, c]⟩
theorem ser_next {c : Nat} {t : Int} {rows : Kv} (h : ND rows) : ser (nextRows c t rows) = (ser rows).sh c t := by
  refine Ser.ext' ?_ ?_ ?_ ?_
  · exact vl_next_nil c t rows
  · intro a; exact vl_next h [] a (by decide)
  · intro a b; exact vl_next h [a] b (by simp)
  · intro a b d; exact vl_next h [a, b] d (by simp)
theorem ser_add {a b : Kv} (h : ND b) : ser (addRows a b) = (ser a).add (ser b) := by
  refine Ser.ext' ?_ ?_ ?_ ?_ <;> intros <;> exact val_addRows b a _ h

theorem ser_step (f : Nat) {e : Ent} (h : ND e.rows) (p : Nat × Int) : ser (stepE f e p).rows = (ser e.rows).step p ∧ ND (stepE f e p).rows := by
  obtain ⟨c, t⟩ := p
  unfold stepE Ser.step
  by_cases hp : t > 0
  · rw [if_pos hp, if_pos hp]
    show ser (addRows e.rows (nextRows c t e.rows)) = _ ∧ ND (addRows e.rows (nextRows c t e.rows))
    exact ⟨by rw [ser_add (nd_nextRows ..), ser_next h], nd_addRows h⟩
  · rw [if_neg hp, if_neg hp]
    show ser (addRows (addRows (addRows e.rows (nextRows c t e.rows)) (nextRows c t (nextRows c t e.rows))) (nextRows c t (nextRows c t (nextRows c t e.rows)))) = _ ∧ ND (addRows (addRows (addRows e.rows _) _) _)
    exact ⟨by rw [ser_add (nd_nextRows ..), ser_add (nd_nextRows ..), ser_add (nd_nextRows ..), ser_next (rows := nextRows c t (nextRows c t e.rows)) (nd_nextRows ..), ser_next (rows := nextRows c t e.rows) (nd_nextRows ..), ser_next h], nd_addRows (nd_addRows (nd_addRows h))⟩
theorem ser_entry (f : Nat) : ∀ (r : Run) (e : Ent), ND e.rows → ser (r.foldl (stepE f) e).rows = r.foldl Ser.step (ser e.rows) ∧ ND (r.foldl (stepE f) e).rows
  | [], e, h => ⟨rfl, h⟩
  | p :: r, e, h => by
    have := ser_step f h p
    rw [List.foldl_cons, List.foldl_cons, ← this.1]
    exact ser_entry f r _ this.2
theorem tx_ne {cs : List Nat} (h : cs ≠ []) : tx cs ∉ entry0.rows.map (·.1) := by
  intro hm
  have e : tx cs = Str.ofString "" := List.mem_singleton.mp hm
  exact h (tx_inj (e.trans rfl))
theorem entry_ser (f : Nat) (r : Run) : ser (entryP f r).rows = Mg r ∧ ND (entryP f r).rows := by
  have h0 : ND entry0.rows := by unfold ND entry0; simp
  have e0 : ser entry0.rows = Ser.one := by
    refine Ser.ext' rfl ?_ ?_ ?_
    · intro a; exact val_none (tx_ne (cs := [a]) (by simp))
    · intro a b; exact val_none (tx_ne (cs := [a, b]) (by simp))
    · intro a b c; exact val_none (tx_ne (cs := [a, b, c]) (by simp))
  have := ser_entry f r entry0 h0
  rw [e0] at this
  exact this
end Mine
end
section
open PySem PySem.W PySem.Calls PyProof.Rows
set_option maxRecDepth 100000
set_option linter.unusedVariables false
set_option linter.unusedSimpArgs false
namespace Mine

/-! ## what is told, as a series -/
noncomputable def dl (x p : Nat) : Int := if p = x then 1 else 0
noncomputable def cntW : List Nat → Nat → Int
  | [], _ => 0
  | x :: w, p => dl x p + cntW w p
noncomputable def Short (l : Kv) : Prop := ∀ k : Str, 3 < k.length → getI l k = none
theorem short_put {l : Kv} (h : Short l) {k : Str} (hk : k.length ≤ 3) (i : Int) : Short (putI l k i) := fun k' hk' => by
  rw [getI_put, if_neg]
  · exact h k' hk'
  · rintro rfl; omega
noncomputable def sumF (l : Kv) : Int := (l.map (·.2)).foldr (· + ·) 0
theorem sumF_cons (p : Str × Int) (l : Kv) : sumF (p :: l) = p.2 + sumF l := rfl
theorem sumF_append (a b : Kv) : sumF (a ++ b) = sumF a + sumF b := by
  induction a with
  | nil => simp [sumF]
  | cons p a ih => rw [List.cons_append, sumF_cons, sumF_cons, ih]; omega
theorem map_put_other {l : Kv} {k : Str} {i : Int} (h : k ∉ l.map (·.1)) : (l.map fun p => if p.1 = k then (p.1, i) else p) = l := by
  induction l with
  | nil => rfl
  | cons p l ih =>
    rw [List.map_cons, List.mem_cons, not_or] at h
    rw [List.map_cons, ih h.2, if_neg (Ne.symm h.1)]
theorem val_cons (p : Str × Int) (l : Kv) (k : Str) : val (p :: l) k = if p.1 = k then p.2 else val l k := by
  unfold val; rw [getI_cons]; split <;> rfl
theorem sum_map_put {k : Str} {i : Int} : ∀ {l : Kv}, ND l → (l.any fun p => p.1 = k) = true → sumF (l.map fun p => if p.1 = k then (p.1, i) else p) = sumF l + i - val l k
  | [], _, h => by cases h
  | p :: l, hn, h => by
    rw [nd_cons] at hn
    rw [List.map_cons, sumF_cons, sumF_cons, val_cons]
    by_cases e : p.1 = k
    · rw [if_pos e, if_pos e, map_put_other (by rw [← e]; exact hn.1)]
      show i + sumF l = _
      omega
    · rw [if_neg e, if_neg e]
      rw [List.any_cons, Bool.or_eq_true] at h
      rw [sum_map_put hn.2 (h.resolve_left (by simpa using e))]
      omega
theorem any_false {l : Kv} {k : Str} (h : (l.any fun p => p.1 = k) = false) : k ∉ l.map (·.1) := by
  intro hm
  obtain ⟨p, hp, e⟩ := List.mem_map.mp hm
  have := List.any_eq_false.mp h p hp
  simp [e] at this
theorem sum_put {l : Kv} (h : ND l) (k : Str) (i : Int) : sumF (putI l k i) = sumF l + i - val l k := by
  unfold putI
  cases hh : l.any fun p => p.1 = k with
  | true => rw [if_pos rfl]; exact sum_map_put h hh
  | false =>
    rw [if_neg (by decide), sumF_append, val_none (any_false hh)]
    simp [sumF]

structure ToldSt (l : Kv) (g : Nat → Nat → Nat → Int) : Prop where
  nd : ND l
  short : Short l
  sum : sumF l = 1
  c0 : vl l [] = 1
  c1 : ∀ a, vl l [a] = 0
  c2 : ∀ a b, vl l [a, b] = 0
  c3 : ∀ a b c, vl l [a, b, c] = g a b c
theorem val_toldRow (tu : Int) (acc : Kv) (p : Str × Int) (k : Str) : val (toldRow tu acc p) k = val acc k + if p.1 = k then tu * p.2 else 0 := by
  unfold toldRow
  rw [val_put]
  by_cases e : p.1 = k
  · rw [if_pos e, if_pos e, e]; rfl
  · rw [if_neg e, if_neg e]; omega
theorem tx3_eq (x y z a b c : Nat) : ((⟨#[x, y, z]⟩ : Str) = tx [a, b, c]) ↔ (a = x ∧ b = y ∧ c = z) := by
  constructor
  · intro h
    have := tx_inj (a := [x, y, z]) h
    simp at this
    exact ⟨this.1.symm, this.2.1.symm, this.2.2.symm⟩
  · rintro ⟨rfl, rfl, rfl⟩; rfl
theorem tx3_ne {x y z : Nat} {cs : List Nat} (h : cs.length ≠ 3) : (⟨#[x, y, z]⟩ : Str) ≠ tx cs := fun e => by
  have := tx_inj (a := [x, y, z]) e
  rw [← this] at h
  simp at h
theorem val_row3 (tu : Int) (acc : Kv) (x y z a b c : Nat) (i : Int) : val (toldRow tu acc (⟨#[x, y, z]⟩, i)) (tx [a, b, c]) = val acc (tx [a, b, c]) + tu * (i * (dl x a * dl y b * dl z c)) := by
  rw [val_toldRow]
  by_cases h : (⟨#[x, y, z]⟩ : Str) = tx [a, b, c]
  · rw [if_pos h]
    obtain ⟨rfl, rfl, rfl⟩ := (tx3_eq x y z a b c).mp h
    simp [dl]
  · rw [if_neg h]
    have e : dl x a * dl y b * dl z c = 0 := by
      unfold dl
      by_cases h1 : a = x
      · by_cases h2 : b = y
        · by_cases h3 : c = z
          · exact absurd ((tx3_eq x y z a b c).mpr ⟨h1, h2, h3⟩) h
          · rw [if_neg h3, Int.mul_zero]
        · rw [if_neg h2, Int.mul_zero, Int.zero_mul]
      · rw [if_neg h1, Int.zero_mul, Int.zero_mul]
    rw [e, Int.mul_zero, Int.mul_zero]
theorem toldZ_ok (left : Bool) (tu : Int) (x y : Nat) {acc : Kv} {g : Nat → Nat → Nat → Int} (h : ToldSt acc g) (z : Nat) :
    ToldSt (toldZ left tu x y acc z) (fun a b c => g a b c + tu * kern left (dl x) (dl y) (dl z) a b c) := by
  have hlen : ∀ a b c : Nat, (⟨#[a, b, c]⟩ : Str).length ≤ 3 := fun _ _ _ => by simp [Str.length]
  have hz : toldZ left tu x y acc z = (signedP left x y z).foldl (toldRow tu) acc := rfl
  have nds : ∀ (l : Kv) (acc : Kv), ND acc → ND (l.foldl (toldRow tu) acc) := by
    intro l
    induction l with
    | nil => exact fun _ h => h
    | cons p l ih => exact fun _ h => ih _ (nd_put h _ _)
  have sums : ∀ (l : Kv) (acc : Kv), ND acc → sumF (l.foldl (toldRow tu) acc) = sumF acc + tu * sumF l := by
    intro l
    induction l with
    | nil => intro acc _; simp [sumF]
    | cons p l ih =>
      intro acc h
      rw [List.foldl_cons, ih (toldRow tu acc p) (nd_put h _ _), sumF_cons]
      unfold toldRow
      rw [sum_put h]
      have : (getI acc p.1).getD 0 = val acc p.1 := rfl
      rw [this]
      grind
  have shs : ∀ (l : Kv) (acc : Kv), (∀ p ∈ l, p.1.length ≤ 3) → Short acc → Short (l.foldl (toldRow tu) acc) := by
    intro l
    induction l with
    | nil => exact fun _ _ h => h
    | cons p l ih => exact fun _ hl h => ih _ (fun q hq => hl q (by simp [hq])) (short_put h (hl p (by simp)) _)
  have vs : ∀ (l : Kv) (acc : Kv) (k : Str), (∀ p ∈ l, p.1 ≠ k) → val (l.foldl (toldRow tu) acc) k = val acc k := by
    intro l
    induction l with
    | nil => exact fun _ _ _ => rfl
    | cons p l ih =>
      intro acc k hl
      rw [List.foldl_cons, ih _ k fun q hq => hl q (by simp [hq]), val_toldRow, if_neg (hl p (by simp))]; omega
  have ne : ∀ (cs : List Nat), cs.length ≠ 3 → ∀ p ∈ signedP left x y z, p.1 ≠ tx cs := by
    intro cs hcs p hp
    unfold signedP at hp
    split at hp <;> (simp only [List.mem_cons, List.not_mem_nil, or_false] at hp; rcases hp with rfl | rfl | rfl | rfl <;> exact tx3_ne hcs)
  rw [hz]
  refine ⟨nds _ _ h.nd, shs _ _ ?_ h.short, ?_, ?_, ?_, ?_, ?_⟩
  · intro p hp
    unfold signedP at hp
    split at hp <;> (simp only [List.mem_cons, List.not_mem_nil, or_false] at hp; rcases hp with rfl | rfl | rfl | rfl <;> exact hlen _ _ _)
  · rw [sums _ _ h.nd, h.sum]
    have : sumF (signedP left x y z) = 0 := by unfold signedP; split <;> rfl
    rw [this]; simp
  · rw [vl, vs _ _ _ (ne [] (by decide))]; exact h.c0
  · intro a; rw [vl, vs _ _ _ (ne [a] (by simp))]; exact h.c1 a
  · intro a b; rw [vl, vs _ _ _ (ne [a, b] (by simp))]; exact h.c2 a b
  · intro a b c
    have h3 := h.c3 a b c
    unfold vl at h3 ⊢
    cases left with
    | true =>
      simp only [signedP, if_true, List.foldl_cons, List.foldl_nil, val_row3, h3, kern]
      clear h3 vs shs sums nds ne hlen hz h
      grind
    | false =>
      simp only [signedP, Bool.false_eq_true, if_false, List.foldl_cons, List.foldl_nil, val_row3, h3, kern]
      clear h3 vs shs sums nds ne hlen hz h
      grind
theorem ToldSt.cong {l : Kv} {g g' : Nat → Nat → Nat → Int} (h : ToldSt l g) (e : ∀ a b c, g a b c = g' a b c) : ToldSt l g' :=
  ⟨h.nd, h.short, h.sum, h.c0, h.c1, h.c2, fun a b c => (h.c3 a b c).trans (e a b c)⟩
theorem toldY_ok (left : Bool) (tu : Int) (x y : Nat) : ∀ (zs : List Nat) {acc : Kv} {g : Nat → Nat → Nat → Int}, ToldSt acc g →
    ToldSt (toldY left tu x zs acc y) (fun a b c => g a b c + tu * kern left (dl x) (dl y) (cntW zs) a b c)
  | [], acc, g, h => h.cong fun a b c => by simp only [kern, cntW]; split <;> simp
  | z :: zs, acc, g, h => by
    have := toldY_ok left tu x y zs (toldZ_ok left tu x y h z)
    refine ToldSt.cong (l := toldY left tu x (z :: zs) acc y) this fun a b c => ?_
    simp only [kern, cntW]
    cases left
    · simp only [Bool.false_eq_true, if_false]; grind
    · simp only [if_true]; grind
theorem toldX_ok (left : Bool) (tu : Int) (x : Nat) (zs : List Nat) : ∀ (ys : List Nat) {acc : Kv} {g : Nat → Nat → Nat → Int}, ToldSt acc g →
    ToldSt (toldX left tu ys zs acc x) (fun a b c => g a b c + tu * kern left (dl x) (cntW ys) (cntW zs) a b c)
  | [], acc, g, h => h.cong fun a b c => by simp only [kern, cntW]; split <;> simp
  | y :: ys, acc, g, h => by
    have := toldX_ok left tu x zs ys (toldY_ok left tu x y zs h)
    refine ToldSt.cong (l := toldX left tu (y :: ys) zs acc x) this fun a b c => ?_
    simp only [kern, cntW]
    cases left
    · simp only [Bool.false_eq_true, if_false]; grind
    · simp only [if_true]; grind
theorem toldW_ok (left : Bool) (tu : Int) (ys zs : List Nat) : ∀ (xs : List Nat) {acc : Kv} {g : Nat → Nat → Nat → Int}, ToldSt acc g →
    ToldSt (xs.foldl (toldX left tu ys zs) acc) (fun a b c => g a b c + tu * kern left (cntW xs) (cntW ys) (cntW zs) a b c)
  | [], acc, g, h => h.cong fun a b c => by simp only [kern, cntW]; split <;> simp
  | x :: xs, acc, g, h => by
    have := toldW_ok left tu ys zs xs (toldX_ok left tu x zs ys h)
    refine ToldSt.cong (l := (x :: xs).foldl (toldX left tu ys zs) acc) this fun a b c => ?_
    simp only [kern, cntW]
    cases left
    · simp only [Bool.false_eq_true, if_false]; grind
    · simp only [if_true]; grind
theorem told0 : ToldSt [(("" : Str), 1)] (fun _ _ _ => 0) := by
  have h0 := entry_ser 0 []
  have e : (entryP 0 []).rows = [(("" : Str), 1)] := rfl
  rw [e] at h0
  refine ⟨h0.2, fun k hk => ?_, rfl, congrArg Ser.c0 h0.1, fun a => congrArg (fun s => s.c1 a) h0.1, fun a b => congrArg (fun s => s.c2 a b) h0.1, fun a b c => congrArg (fun s => s.c3 a b c) h0.1⟩
  rw [getI_cons, if_neg]
  · rfl
  · rintro rfl; exact absurd hk (by decide)
noncomputable def toldPre (left : Bool) (d0 d1 d2 : Dr) : Kv := d0.word.foldl (toldX left (turnedP [d0, d1, d2]) d1.word d2.word) [(("" : Str), 1)]
theorem toldPre_ok (left : Bool) (d0 d1 d2 : Dr) : ToldSt (toldPre left d0 d1 d2) (fun a b c => turnedP [d0, d1, d2] * kern left (cntW d0.word) (cntW d1.word) (cntW d2.word) a b c) :=
  (toldW_ok left _ _ _ _ told0).cong fun a b c => by simp

/-! ## the letters' runs -/
theorem mg_runOf (p : Nat) : ∀ w : List Nat, (Mg (runOf w)).c1 p = cntW w p
  | [] => rfl
  | c :: w => by
    rw [show runOf (c :: w) = [(c, 1)] ++ runOf w from rfl, mg_append, mg_one]
    simp only [Ser.mul, mg_c0, lt_c0, mg_runOf p w, cntW]
    have : (Lt (c, 1)).c1 p = dl c p := by simp [Lt, Ser.step, Ser.add, Ser.one, Ser.sh, dl]
    rw [this]; omega
theorem turns_runOf (w : List Nat) : Turns (runOf w) := fun p hp => by
  obtain ⟨c, _, rfl⟩ := List.mem_map.mp hp; exact .inl rfl
theorem turns_runU (d : Dr) (u : Nat) : Turns (runU d u) := by
  unfold runU; split
  · exact (turns_runOf _).undone
  · exact turns_runOf _
theorem mg_runU (d : Dr) (h : d.und = 0 ∨ d.und = 1) (p : Nat) : (Mg (runU d d.und)).c1 p = (1 - 2 * (d.und : Int)) * cntW d.word p := by
  rcases h with h | h
  · rw [h]; show (Mg (runOf d.word)).c1 p = _; rw [mg_runOf]; simp
  · rw [h]
    show (Mg (undoneP (runOf d.word))).c1 p = _
    have := congrArg (fun s => s.c1 p) (mg_inv _ (turns_runOf d.word))
    simp only [Ser.mul, mg_c0, mg_runOf, Ser.one] at this
    rw [show (1 - 2 * ((1 : Nat) : Int)) = -1 from rfl]
    omega
theorem mg_back (d : Dr) (h : d.und = 0 ∨ d.und = 1) : (Mg (runU d (1 - d.und))).mul (Mg (runU d d.und)) = Ser.one := by
  rcases h with h | h
  · rw [h]; exact mg_inv' (turns_runOf _)
  · rw [h]; exact mg_inv _ (turns_runOf _)

noncomputable def wrapR (r : Run) (x : DT) : Run := runU x.d x.d.und ++ r ++ runU x.d (1 - x.d.und)
theorem flat_wraps : ∀ (xs : List DT) (out : List Run), (xs.foldl wrapO out).flatten = xs.foldl wrapR out.flatten
  | [], _ => rfl
  | x :: xs, out => by
    rw [List.foldl_cons, List.foldl_cons, flat_wraps xs]
    congr 1
    simp [wrapO, wrapR]
noncomputable def runP (left : Bool) (a b c : DT) (xs : List DT) : Run := xs.foldl wrapR (coreR left (runU a.d a.d.und) (runU b.d b.d.und) (runU c.d c.d.und))
theorem flat_out (left : Bool) (a b c : DT) (xs : List DT) : (outP left a b c xs).flatten = runP left a b c xs := by
  unfold outP runP; rw [flat_wraps]; simp
theorem third_wraps {k : Nat → Nat → Nat → Int} : ∀ (xs : List DT) (r : Run), (∀ x ∈ xs, x.d.und = 0 ∨ x.d.und = 1) → Third (Mg r) k → Third (Mg (xs.foldl wrapR r)) k
  | [], _, _, h => h
  | x :: xs, r, hx, h => third_wraps xs _ (fun y hy => hx y (by simp [hy])) (third_wrap (mg_back x.d (hx x (by simp))) h)
theorem third_run (left : Bool) {a b c : DT} {xs : List DT} (ha : a.d.und = 0 ∨ a.d.und = 1) (hb : b.d.und = 0 ∨ b.d.und = 1) (hc : c.d.und = 0 ∨ c.d.und = 1) (hx : ∀ x ∈ xs, x.d.und = 0 ∨ x.d.und = 1) :
    Third (Mg (runP left a b c xs)) (fun p q r => turnedP [a.d, b.d, c.d] * kern left (cntW a.d.word) (cntW b.d.word) (cntW c.d.word) p q r) := by
  refine third_wraps xs _ hx ?_
  have := third_core left (turns_runU a.d a.d.und) (turns_runU b.d b.d.und) (turns_runU c.d c.d.und)
  refine ⟨this.c0, this.c1, this.c2, fun p q r => (this.c3 p q r).trans ?_⟩
  simp only [kern, mg_runU _ ha, mg_runU _ hb, mg_runU _ hc, turnedP, List.foldl_cons, List.foldl_nil]
  split <;> grind
end Mine
end
section
open PySem PySem.W PySem.Calls PyProof.Rows
set_option maxRecDepth 100000
set_option linter.unusedVariables false
set_option linter.unusedSimpArgs false
namespace Mine

/-! ## what is counted along a run -/
noncomputable def sumOn (g : Nat × Int → Int) (r : Run) : Int := (r.map g).foldr (· + ·) 0
theorem sumOn_cons (g : Nat × Int → Int) (p : Nat × Int) (r : Run) : sumOn g (p :: r) = g p + sumOn g r := rfl
theorem sumOn_append (g : Nat × Int → Int) (a b : Run) : sumOn g (a ++ b) = sumOn g a + sumOn g b := by
  induction a with
  | nil => simp [sumOn]
  | cons p a ih => rw [List.cons_append, sumOn_cons, sumOn_cons, ih]; omega
noncomputable def gC (p : Nat × Int) : Int := if p.2 > 0 then 1 else 0
noncomputable def gN (_ : Nat × Int) : Int := 1
noncomputable def gT (f : Nat) (p : Nat × Int) : Int := ownOf f p.1
noncomputable def gO (f : Nat) (p : Nat × Int) : Int := if p.2 < 0 then ownOf f p.1 else 0
theorem undone_sum (f : Nat) : ∀ r : Run, Turns r → sumOn gC (undoneP r) = sumOn gN r - sumOn gC r ∧ sumOn gN (undoneP r) = sumOn gN r ∧ sumOn (gT f) (undoneP r) = sumOn (gT f) r ∧ sumOn (gO f) (undoneP r) = sumOn (gT f) r - sumOn (gO f) r
  | [], _ => by simp [undoneP, sumOn]
  | p :: r, h => by
    refine Classical.byContradiction fun hNo => ?_
    obtain ⟨h1, h2, h3, h4⟩ := undone_sum f r fun q hq => h q (by simp [hq])
    refine hNo ?_
    clear hNo
    have one : ∀ g : Nat × Int → Int, sumOn g [(p.1, -p.2)] = g (p.1, -p.2) := fun g => by simp [sumOn]
    rw [undone_cons]
    simp only [sumOn_append, sumOn_cons, h1, h2, h3, h4, one, gC, gN, gT, gO]
    rcases h p (by simp) with e | e
    · rw [e]; simp; omega
    · rw [e]; simp; omega
theorem ent_step (f : Nat) (e : Ent) (p : Nat × Int) : (stepE f e p).cc = gC p + e.cc ∧ (stepE f e p).nc = gN p + e.nc ∧ (stepE f e p).tt = gT f p + e.tt ∧ (stepE f e p).ct = gO f p + e.ct := by
  unfold stepE
  by_cases h : p.2 > 0
  · rw [if_pos h]; exact ⟨rfl, rfl, rfl, rfl⟩
  · rw [if_neg h]
    refine ⟨?_, ?_, ?_, ?_⟩ <;> simp [lapN, lap1, lapE, addEnt, cnt0, gC, gN, gT, gO]
theorem ent_fold (f : Nat) : ∀ (r : Run) (e : Ent), (r.foldl (stepE f) e).cc = e.cc + sumOn gC r ∧ (r.foldl (stepE f) e).nc = e.nc + sumOn gN r ∧ (r.foldl (stepE f) e).tt = e.tt + sumOn (gT f) r ∧ (r.foldl (stepE f) e).ct = e.ct + sumOn (gO f) r
  | [], e => by simp [sumOn]
  | p :: r, e => by
    refine Classical.byContradiction fun hNo => ?_
    obtain ⟨h1, h2, h3, h4⟩ := ent_fold f r (stepE f e p)
    obtain ⟨k1, k2, k3, k4⟩ := ent_step f e p
    refine hNo ?_
    clear hNo
    rw [List.foldl_cons, h1, h2, h3, h4, k1, k2, k3, k4]
    simp only [sumOn_cons]
    omega
structure Cn (f : Nat) (r : Run) (n c t o : Int) : Prop where
  tr : Turns r
  n : sumOn gN r = n
  c : sumOn gC r = c
  t : sumOn (gT f) r = t
  o : sumOn (gO f) r = o
section
variable {f : Nat} {a b : Run} {n c t o n' c' t' o' : Int}
theorem Cn.append (x : Cn f a n c t o) (y : Cn f b n' c' t' o') : Cn f (a ++ b) (n + n') (c + c') (t + t') (o + o') :=
  ⟨x.tr.append y.tr, by rw [sumOn_append, x.n, y.n], by rw [sumOn_append, x.c, y.c], by rw [sumOn_append, x.t, y.t], by rw [sumOn_append, x.o, y.o]⟩
theorem Cn.undone (x : Cn f a n c t o) : Cn f (undoneP a) n (n - c) t (t - o) := by
  refine Classical.byContradiction fun hNo => ?_
  obtain ⟨h1, h2, h3, h4⟩ := undone_sum f a x.tr
  refine hNo ?_
  clear hNo
  exact ⟨x.tr.undone, h2.trans x.n, by rw [h1, x.n, x.c], h3.trans x.t, by rw [h4, x.t, x.o]⟩
theorem Cn.to (x : Cn f a n c t o) (h1 : n = n') (h2 : c = c') (h3 : t = t') (h4 : o = o') : Cn f a n' c' t' o' := by subst h1 h2 h3 h4; exact x
theorem Cn.comm (x : Cn f a n c t o) (y : Cn f b n' c' t' o') : Cn f (commP a b) (2 * n + 2 * n') (n + n') (2 * t + 2 * t') (t + t') :=
  (((x.append y).append x.undone).append y.undone).to (by omega) (by omega) (by omega) (by omega)
end
noncomputable def ownW (f : Nat) (w : List Nat) : Nat := (w.filter (· = f)).length
theorem cn_runOf (f : Nat) : ∀ w : List Nat, Cn f (runOf w) w.length w.length (ownW f w) 0
  | [] => ⟨(fun p hp => by cases hp), rfl, rfl, rfl, rfl⟩
  | x :: w => by
    have h := cn_runOf f w
    refine ⟨turns_runOf _, ?_, ?_, ?_, ?_⟩
    · show gN (x, 1) + sumOn gN (runOf w) = _
      rw [h.n, gN, List.length_cons]; omega
    · show gC (x, 1) + sumOn gC (runOf w) = _
      rw [h.c, gC, List.length_cons]; simp; omega
    · show gT f (x, 1) + sumOn (gT f) (runOf w) = _
      rw [h.t, gT, ownOf, ownW, ownW, List.filter_cons]
      by_cases e : x = f
      · simp [e]; omega
      · simp [e]
    · show gO f (x, 1) + sumOn (gO f) (runOf w) = _
      rw [h.o, gO]; simp
theorem cn_runU (f : Nat) (d : Dr) (u : Nat) : ∃ c o, Cn f (runU d u) d.word.length c (ownW f d.word) o := by
  unfold runU
  split
  · exact ⟨_, _, (cn_runOf f d.word).undone⟩
  · exact ⟨_, _, cn_runOf f d.word⟩
theorem cn_wrap {f : Nat} {r : Run} {n c t o : Int} {x : DT} (hx : x.d.und = 0 ∨ x.d.und = 1) (h : Cn f r n c t o) : Cn f (wrapR r x) (n + 2 * x.d.word.length) (c + x.d.word.length) (t + 2 * ownW f x.d.word) (o + ownW f x.d.word) := by
  have k := cn_runOf f x.d.word
  unfold wrapR
  rcases hx with e | e
  · rw [e]
    exact ((k.append h).append k.undone).to (by omega) (by omega) (by omega) (by omega)
  · rw [e]
    exact ((k.undone.append h).append k).to (by omega) (by omega) (by omega) (by omega)
theorem core_l (a b c : Nat) : 2 * (2 * (a : Int) + 2 * b) + 2 * c = ((2 * (2 * a + 2 * b + c) : Nat) : Int) := by omega
theorem core_l' (a b c : Nat) : 2 * (a : Int) + 2 * b + c = ((2 * a + 2 * b + c : Nat) : Int) := by omega
theorem core_r (a b c : Nat) : 2 * (a : Int) + 2 * (2 * b + 2 * c) = ((2 * (a + 2 * b + 2 * c) : Nat) : Int) := by omega
theorem core_r' (a b c : Nat) : (a : Int) + (2 * b + 2 * c) = ((a + 2 * b + 2 * c : Nat) : Int) := by omega
theorem nat_l (a b c : Nat) : 2 * (2 * a + 2 * b + c) = 4 * a + (4 * b + (2 * c + 0)) := by omega
theorem nat_r (a b c : Nat) : 2 * (a + 2 * b + 2 * c) = 2 * a + (4 * b + (4 * c + 0)) := by omega
theorem more_a (n l : Nat) : ((2 * n : Nat) : Int) + 2 * l = ((2 * (n + l) : Nat) : Int) := by omega
theorem more_b (n l : Nat) : (n : Int) + l = ((n + l : Nat) : Int) := rfl
theorem size_one (left : Bool) (a b c x : Dr) : sizeP left [a, b, c, x] = sizeP left [a, b, c] + 2 * x.word.length := by
  cases left
  · show 2 * a.word.length + (4 * b.word.length + (4 * c.word.length + (2 * x.word.length + 0))) = 2 * a.word.length + (4 * b.word.length + (4 * c.word.length + 0)) + 2 * x.word.length
    simp only [Nat.add_zero, Nat.add_assoc]
  · show 4 * a.word.length + (4 * b.word.length + (2 * c.word.length + (2 * x.word.length + 0))) = 4 * a.word.length + (4 * b.word.length + (2 * c.word.length + 0)) + 2 * x.word.length
    simp only [Nat.add_zero, Nat.add_assoc]
theorem size_two (left : Bool) (a b c x y : Dr) : sizeP left [a, b, c, x, y] = sizeP left [a, b, c, x] + 2 * y.word.length := by
  cases left
  · show 2 * a.word.length + (4 * b.word.length + (4 * c.word.length + (2 * x.word.length + (2 * y.word.length + 0)))) = 2 * a.word.length + (4 * b.word.length + (4 * c.word.length + (2 * x.word.length + 0))) + 2 * y.word.length
    simp only [Nat.add_zero, Nat.add_assoc]
  · show 4 * a.word.length + (4 * b.word.length + (2 * c.word.length + (2 * x.word.length + (2 * y.word.length + 0)))) = 4 * a.word.length + (4 * b.word.length + (2 * c.word.length + (2 * x.word.length + 0))) + 2 * y.word.length
    simp only [Nat.add_zero, Nat.add_assoc]
theorem own_one (left : Bool) (f : Nat) (a b c x : Dr) : ownP left f [a, b, c, x] = ownP left f [a, b, c] + 2 * ownW f x.word := by
  cases left
  · show 2 * ownW f a.word + (4 * ownW f b.word + (4 * ownW f c.word + (2 * ownW f x.word + 0))) = 2 * ownW f a.word + (4 * ownW f b.word + (4 * ownW f c.word + 0)) + 2 * ownW f x.word
    simp only [Nat.add_zero, Nat.add_assoc]
  · show 4 * ownW f a.word + (4 * ownW f b.word + (2 * ownW f c.word + (2 * ownW f x.word + 0))) = 4 * ownW f a.word + (4 * ownW f b.word + (2 * ownW f c.word + 0)) + 2 * ownW f x.word
    simp only [Nat.add_zero, Nat.add_assoc]
theorem own_two (left : Bool) (f : Nat) (a b c x y : Dr) : ownP left f [a, b, c, x, y] = ownP left f [a, b, c, x] + 2 * ownW f y.word := by
  cases left
  · show 2 * ownW f a.word + (4 * ownW f b.word + (4 * ownW f c.word + (2 * ownW f x.word + (2 * ownW f y.word + 0)))) = 2 * ownW f a.word + (4 * ownW f b.word + (4 * ownW f c.word + (2 * ownW f x.word + 0))) + 2 * ownW f y.word
    simp only [Nat.add_zero, Nat.add_assoc]
  · show 4 * ownW f a.word + (4 * ownW f b.word + (2 * ownW f c.word + (2 * ownW f x.word + (2 * ownW f y.word + 0)))) = 4 * ownW f a.word + (4 * ownW f b.word + (2 * ownW f c.word + (2 * ownW f x.word + 0))) + 2 * ownW f y.word
    simp only [Nat.add_zero, Nat.add_assoc]
theorem cn_core (f : Nat) (left : Bool) (a b c : DT) : ∃ n t : Nat, Cn f (coreR left (runU a.d a.d.und) (runU b.d b.d.und) (runU c.d c.d.und)) (2 * n : Nat) n (2 * t : Nat) t ∧
    2 * n = sizeP left [a.d, b.d, c.d] ∧ 2 * t = ownP left f [a.d, b.d, c.d] := by
  obtain ⟨c1, o1, h1⟩ := cn_runU f a.d a.d.und
  obtain ⟨c2, o2, h2⟩ := cn_runU f b.d b.d.und
  obtain ⟨c3, o3, h3⟩ := cn_runU f c.d c.d.und
  cases left with
  | true =>
    exact ⟨2 * a.d.word.length + 2 * b.d.word.length + c.d.word.length, 2 * ownW f a.d.word + 2 * ownW f b.d.word + ownW f c.d.word, ((h1.comm h2).comm h3).to (core_l _ _ _) (core_l' _ _ _) (core_l _ _ _) (core_l' _ _ _), nat_l _ _ _, nat_l _ _ _⟩
  | false =>
    exact ⟨a.d.word.length + 2 * b.d.word.length + 2 * c.d.word.length, ownW f a.d.word + 2 * ownW f b.d.word + 2 * ownW f c.d.word, (h1.comm (h2.comm h3)).to (core_r _ _ _) (core_r' _ _ _) (core_r _ _ _) (core_r' _ _ _), nat_r _ _ _, nat_r _ _ _⟩
theorem cn_one {f : Nat} {r : Run} {n t : Nat} {x : DT} (hx : x.d.und = 0 ∨ x.d.und = 1) (h : Cn f r (2 * n : Nat) n (2 * t : Nat) t) :
    Cn f (wrapR r x) (2 * (n + x.d.word.length) : Nat) (n + x.d.word.length : Nat) (2 * (t + ownW f x.d.word) : Nat) (t + ownW f x.d.word : Nat) :=
  (cn_wrap hx h).to (more_a _ _) (more_b _ _) (more_a _ _) (more_b _ _)
theorem cn_run (f : Nat) (left : Bool) (a b c : DT) {xs : List DT} (hx : ∀ x ∈ xs, x.d.und = 0 ∨ x.d.und = 1) (hl : xs.length ≤ 2) : ∃ n t : Nat, Cn f (runP left a b c xs) (2 * n : Nat) n (2 * t : Nat) t ∧
    2 * n = sizeP left (a.d :: b.d :: c.d :: xs.map DT.d) ∧ 2 * t = ownP left f (a.d :: b.d :: c.d :: xs.map DT.d) := by
  obtain ⟨n, t, h, hn, ht⟩ := cn_core f left a b c
  match xs, hx, hl with
  | [], _, _ => exact ⟨n, t, h, hn, ht⟩
  | [x], hx, _ =>
    refine ⟨n + x.d.word.length, t + ownW f x.d.word, cn_one (hx x (List.mem_cons_self ..)) h, ?_, ?_⟩
    · rw [Nat.mul_add, hn]; exact (size_one ..).symm
    · rw [Nat.mul_add, ht]; exact (own_one ..).symm
  | [x, y], hx, _ =>
    refine ⟨n + x.d.word.length + y.d.word.length, t + ownW f x.d.word + ownW f y.d.word, cn_one (hx y (List.mem_cons_of_mem _ (List.mem_cons_self ..))) (cn_one (hx x (List.mem_cons_self ..)) h), ?_, ?_⟩
    · rw [Nat.mul_add, Nat.mul_add, hn, ← size_one left a.d b.d c.d x.d]; exact (size_two ..).symm
    · rw [Nat.mul_add, Nat.mul_add, ht, ← own_one left f a.d b.d c.d x.d]; exact (own_two ..).symm
  | _ :: _ :: _ :: _, _, hl => exact absurd hl (by simp)

/-! ## rows that say the same -/
theorem getI_mem {l : Kv} (h : ND l) (p : Str × Int) : p ∈ l ↔ getI l p.1 = some p.2 := by
  induction l with
  | nil => simp [getI_nil]
  | cons q l ih =>
    rw [nd_cons] at h
    rw [List.mem_cons, getI_cons, ih h.2]
    by_cases e : q.1 = p.1
    · rw [if_pos e]
      constructor
      · rintro (rfl | hp)
        · rfl
        · rw [getI_none (by rw [← e]; exact h.1)] at hp; cases hp
      · intro hp
        left
        cases p; cases q
        simp only [Option.some.injEq] at hp e
        rw [e, hp]
    · rw [if_neg e]
      constructor
      · rintro (rfl | hp)
        · exact absurd rfl e
        · exact hp
      · exact .inr
theorem ND.nodup {l : Kv} (h : ND l) : l.Nodup := List.Pairwise.of_map (R := fun x1 x2 => x1 ≠ x2) (f := (·.1)) (fun a b hab e => hab (by rw [e])) h
theorem perm_of {a b : Kv} (ha : ND a) (hb : ND b) (h : ∀ k, getI a k = getI b k) : a.Perm b :=
  (List.perm_ext_iff_of_nodup ha.nodup hb.nodup).mpr fun p => by rw [getI_mem ha, getI_mem hb, h]
theorem sumF_perm {a b : Kv} (h : a.Perm b) : sumF a = sumF b := by
  induction h with
  | nil => rfl
  | cons p _ ih => rw [sumF_cons, sumF_cons, ih]
  | swap p q l => rw [sumF_cons, sumF_cons, sumF_cons, sumF_cons]; omega
  | trans _ _ h1 h2 => exact h1.trans h2
theorem foldl_sum : ∀ (l : List Int) (i : Int), l.foldl (· + ·) i = i + l.foldr (· + ·) 0
  | [], i => by simp
  | x :: l, i => by rw [List.foldl_cons, foldl_sum l, List.foldr_cons]; omega
theorem sumRows_eq (l : Kv) : sumRows l = sumF l := by unfold sumRows sumF; rw [foldl_sum]; omega
theorem comp_filter (pz : Str × Int → Bool) : ∀ (l acc : Kv), ND (acc ++ l) → l.foldl (compStep pz (fun k => k) (fun p => p.2)) acc = acc ++ l.filter pz
  | [], acc, _ => by simp
  | p :: l, acc, h => by
    have h' : ND (acc ++ [p] ++ l) := by rw [List.append_assoc]; exact h
    rw [List.foldl_cons, List.filter_cons]
    unfold compStep
    by_cases hp : pz p = true
    · rw [if_pos hp, if_pos hp]
      have e : putI acc p.1 p.2 = acc ++ [p] := by
        unfold putI
        rw [if_neg]
        intro ha
        refine Classical.byContradiction fun hNo => ?_
        obtain ⟨q, hq, hk⟩ := List.any_eq_true.mp ha
        refine hNo ?_
        clear hNo
        have hk : q.1 = p.1 := by simpa using hk
        unfold ND at h
        rw [List.map_append, List.nodup_append] at h
        exact h.2.2 q.1 (List.mem_map.mpr ⟨q, hq, rfl⟩) p.1 (by simp) hk
      show l.foldl (compStep pz (fun k => k) (fun p => p.2)) (putI acc p.1 p.2) = _
      rw [e, comp_filter pz l _ h', List.append_assoc]; rfl
    · rw [if_neg hp, if_neg hp]
      refine comp_filter pz l acc ?_
      unfold ND at h ⊢
      rw [List.map_append, List.map_cons] at h
      rw [List.map_append]
      rw [List.nodup_append] at h ⊢
      exact ⟨h.1, (List.nodup_cons.mp h.2.1).2, fun x hx y hy => h.2.2 x hx y (List.mem_cons_of_mem _ hy)⟩
theorem nonZero_eq {l : Kv} (h : ND l) : nonZero l = l.filter fun p => decide (p.2 ≠ 0) := by unfold nonZero; rw [comp_filter _ l [] (by simpa using h)]; rfl
theorem above_eq {l : Kv} (h : ND l) : aboveZero l = l.filter fun p => decide (p.2 > 0) := by unfold aboveZero; rw [comp_filter _ l [] (by simpa using h)]; rfl
theorem nd_filter {l : Kv} (h : ND l) (pz : Str × Int → Bool) : ND (l.filter pz) := List.Sublist.nodup (List.Sublist.map _ List.filter_sublist) h
theorem getI_filter {l : Kv} (h : ND l) (k : Str) : getI (l.filter fun p => decide (p.2 ≠ 0)) k = if val l k = 0 then none else some (val l k) := by
  induction l with
  | nil => simp [getI_nil, val]
  | cons p l ih =>
    rw [nd_cons] at h
    rw [List.filter_cons, val_cons]
    by_cases hp : p.2 = 0
    · rw [if_neg (by simp [hp]), ih h.2]
      by_cases e : p.1 = k
      · rw [if_pos e, if_pos hp, val_none (by rw [← e]; exact h.1), if_pos rfl]
      · rw [if_neg e]
    · rw [if_pos (by simp [hp]), getI_cons, ih h.2]
      by_cases e : p.1 = k
      · rw [if_pos e, if_pos e, if_neg hp]
      · rw [if_neg e, if_neg e]
theorem sumF_filter (l : Kv) : sumF (l.filter fun p => decide (p.2 ≠ 0)) = sumF l := by
  induction l with
  | nil => rfl
  | cons p l ih =>
    rw [List.filter_cons, sumF_cons]
    by_cases hp : p.2 = 0
    · rw [if_neg (by simp [hp]), ih]; omega
    · rw [if_pos (by simp [hp]), sumF_cons, ih]

theorem short_step (f : Nat) {e : Ent} (h : Short e.rows) (p : Nat × Int) : Short (stepE f e p).rows := by
  have hadd : ∀ (b acc : Kv), (∀ q ∈ b, q.1.length ≤ 3) → Short acc → Short (addRows acc b) := by
    intro b
    induction b with
    | nil => exact fun _ _ h => h
    | cons q b ih =>
      intro acc hb ha
      refine ih (addRow acc q) (fun r hr => hb r (by simp [hr])) ?_
      unfold addRow
      split <;> exact short_put ha (hb q (by simp)) _
  have hnext : ∀ (rows acc : Kv) (c : Nat) (t : Int), (∀ q ∈ acc, q.1.length ≤ 3) → ∀ q ∈ rows.foldl (nextRow c t) acc, q.1.length ≤ 3 := by
    intro rows
    induction rows with
    | nil => exact fun _ _ _ h => h
    | cons r rows ih =>
      intro acc c t ha
      refine ih _ c t ?_
      unfold nextRow
      split
      · rename_i hl
        intro q hq
        have hk : q.1 ∈ (putI acc (r.1 ++ ⟨#[c]⟩) (t * r.2)).map (·.1) := List.mem_map.mpr ⟨q, hq, rfl⟩
        have hlen : (r.1 ++ (⟨#[c]⟩ : Str)).length ≤ 3 := by
          rw [tx_eta r.1, show (⟨#[c]⟩ : Str) = ⟨[c].toArray⟩ from rfl, strApp, strLen, List.length_append]
          rw [tx_eta r.1, strLen] at hl
          simp only [List.length_singleton]; omega
        rw [putI_keys] at hk
        split at hk
        · obtain ⟨q', hq', e⟩ := List.mem_map.mp hk; rw [← e]; exact ha q' hq'
        · rcases List.mem_append.mp hk with hk | hk
          · obtain ⟨q', hq', e⟩ := List.mem_map.mp hk; rw [← e]; exact ha q' hq'
          · rw [List.mem_singleton.mp hk]; exact hlen
      · exact ha
  have hn : ∀ (rows : Kv) (c : Nat) (t : Int), ∀ q ∈ nextRows c t rows, q.1.length ≤ 3 := fun rows c t => hnext rows [] c t (fun q hq => by cases hq)
  unfold stepE
  by_cases hp : p.2 > 0
  · rw [if_pos hp]; exact hadd _ _ (hn _ _ _) h
  · rw [if_neg hp]; exact hadd _ _ (hn _ _ _) (hadd _ _ (hn _ _ _) (hadd _ _ (hn _ _ _) h))
theorem short_entry (f : Nat) : ∀ (r : Run) (e : Ent), Short e.rows → Short (r.foldl (stepE f) e).rows
  | [], _, h => h
  | p :: r, e, h => short_entry f r _ (short_step f h p)

theorem same_val {a b : Kv} (sa : Short a) (sb : Short b) (h : ser a = ser b) (k : Str) : val a k = val b k := by
  have c0 := congrArg Ser.c0 h
  have c1 := fun x => congrArg (fun s => s.c1 x) h
  have c2 := fun x y => congrArg (fun s => s.c2 x y) h
  have c3 := fun x y z => congrArg (fun s => s.c3 x y z) h
  rw [tx_eta k]
  match hk : k.cps.toList with
  | [] => exact c0
  | [x] => exact c1 x
  | [x, y] => exact c2 x y
  | [x, y, z] => exact c3 x y z
  | x :: y :: z :: u :: r =>
    have hl : 3 < (tx (x :: y :: z :: u :: r)).length := by rw [strLen]; simp
    unfold val
    rw [sa _ hl, sb _ hl]
end Mine
end
section
open PySem PySem.W PySem.Calls PyProof.Rows
set_option maxRecDepth 100000
set_option linter.unusedVariables false
set_option linter.unusedSimpArgs false
namespace Mine

/-- the plain law, with what the walk asks besides -/
structure PlainL (script : List Int) : Prop where
  nums : 3 ≤ (numbersP script).length ∧ (numbersP script).length ≤ 5
  core : checkPure (textP (leftP script) (lettersP script)) = true ∧ checkPure ([41] ++ textP (leftP script) (lettersP script) ++ [40]) = false ∧ ∃ out, Items (familyP script) 2 (unitsP (textP (leftP script) (lettersP script))) out ∧
    let run : Run := out.flatten
    let e := entryP (signP (familyP script) 0).1 run
    let ds := lettersP script
    let told := toldP (leftP script) (ds.getD 0 ⟨[], 0, [], 0⟩) (ds.getD 1 ⟨[], 0, [], 0⟩) (ds.getD 2 ⟨[], 0, [], 0⟩)
    (Turns run ∧ (∀ p ∈ run, p.1 = (fam (familyP script)).first ∨ p.1 = (fam (familyP script)).second) ∧ run.length ≤ 200 ∧ out.length ≤ 5) ∧
    e.cc = (sizeP (leftP script) ds / 2 : Nat) ∧ e.nc = sizeP (leftP script) ds ∧ e.tt = ownP (leftP script) (signP (familyP script) 0).1 ds ∧ e.ct = (ownP (leftP script) (signP (familyP script) 0).1 ds / 2 : Nat) ∧
    (∀ k, getI (nonZero e.rows) k = getI told k) ∧ (nonZero e.rows).length = told.length ∧ sumRows e.rows = 1 ∧ sumRows (aboveZero (nonZero e.rows)) = ((told.map (·.2)).filter (· > 0)).foldl (· + ·) 0 ∧ ND (nonZero e.rows) ∧ e.rows.length ≤ 1000

theorem words_good {i j : Nat} (hi : i < 4) (hj : j < 9) : (signP i j).2.length ≤ 2 ∧ ∀ c ∈ (signP i j).2, c = (fam i).first ∨ c = (fam i).second := by
  have h : ((List.range 4).all fun i => (List.range 9).all fun j => decide ((signP i j).2.length ≤ 2) && (signP i j).2.all fun c => c == (fam i).first || c == (fam i).second) = true := by decide +kernel
  have := List.all_eq_true.mp (List.all_eq_true.mp h i (List.mem_range.mpr hi)) j (List.mem_range.mpr hj)
  simp only [Bool.and_eq_true, decide_eq_true_eq, List.all_eq_true, Bool.or_eq_true, beq_iff_eq] at this
  exact this
theorem numbers_shape (script : List Int) : ∃ a b c rest, numbersP script = a :: b :: c :: rest ∧ rest.length ≤ 2 := by
  unfold numbersP drawnN
  match script with
  | [] => exact ⟨_, _, _, _, rfl, by simp⟩
  | [_] => exact ⟨_, _, _, _, rfl, by simp⟩
  | [_, _] => exact ⟨_, _, _, _, rfl, by simp⟩
  | [_, _, _] => exact ⟨_, _, _, _, rfl, by simp⟩
  | [_, _, _, _] => exact ⟨_, _, _, _, rfl, by simp⟩
  | _ :: _ :: _ :: _ :: _ :: _ => exact ⟨_, _, _, _, rfl, by simp⟩
noncomputable def dtP (i n : Nat) : DT := ⟨drawnP i n, aheadT n⟩
theorem fam_lt (script : List Int) : familyP script < 4 := Nat.mod_lt _ (by decide)

/-- letters of a run -/
noncomputable def InL (x y : Nat) (r : Run) : Prop := ∀ p ∈ r, p.1 = x ∨ p.1 = y
section
variable {x y : Nat} {a b : Run}
theorem InL.append (h : InL x y a) (k : InL x y b) : InL x y (a ++ b) := fun p hp => (List.mem_append.mp hp).elim (h p) (k p)
theorem InL.undone (h : InL x y a) : InL x y (undoneP a) := fun p hp => by
  unfold undoneP at hp
  refine Classical.byContradiction fun hNo => ?_
  obtain ⟨q, hq, rfl⟩ := List.mem_map.mp hp
  refine hNo ?_
  clear hNo
  exact h q (List.mem_reverse.mp hq)
theorem InL.comm (h : InL x y a) (k : InL x y b) : InL x y (commP a b) := ((h.append k).append h.undone).append k.undone
end
theorem inL_runU {i n : Nat} (hi : i < 4) (u : Nat) : InL (fam i).first (fam i).second (runU (drawnP i n) u) := by
  have key : InL (fam i).first (fam i).second (runOf (drawnP i n).word) := fun p hp => by
    refine Classical.byContradiction fun hNo => ?_
    obtain ⟨c, hc, rfl⟩ := List.mem_map.mp hp
    refine hNo ?_
    clear hNo
    exact (words_good hi (Nat.mod_lt _ (by decide))).2 c hc
  unfold runU; split
  · exact key.undone
  · exact key
theorem len_runU {i n : Nat} (hi : i < 4) (u : Nat) : (runU (drawnP i n) u).length ≤ 2 := by
  have := (words_good hi (j := n / 2 % 9) (Nat.mod_lt _ (by decide))).1
  unfold runU
  split
  · simp only [undoneP, runOf, List.length_map, List.length_reverse]; exact this
  · simp only [runOf, List.length_map]; exact this
theorem inL_wraps {x y : Nat} : ∀ (xs : List DT) (r : Run), (∀ d ∈ xs, ∀ u, InL x y (runU d.d u)) → InL x y r → InL x y (xs.foldl wrapR r)
  | [], _, _, h => h
  | d :: xs, r, hd, h => inL_wraps xs _ (fun e he => hd e (by simp [he])) (((hd d (by simp) _).append h).append (hd d (by simp) _))
theorem len_wraps : ∀ (xs : List DT) (r : Run), (∀ d ∈ xs, ∀ u, (runU d.d u).length ≤ 2) → (xs.foldl wrapR r).length ≤ r.length + 4 * xs.length
  | [], _, _ => by simp
  | d :: xs, r, hd => by
    have h := len_wraps xs (wrapR r d) (fun e he => hd e (by simp [he]))
    have h1 := hd d (by simp) d.d.und
    have h2 := hd d (by simp) (1 - d.d.und)
    rw [List.foldl_cons, List.length_cons]
    have e : (wrapR r d).length = (runU d.d d.d.und).length + r.length + (runU d.d (1 - d.d.und)).length := by simp [wrapR]; omega
    omega
theorem len_out : ∀ (xs : List DT) (out : List Run), (xs.foldl wrapO out).length = out.length + 2 * xs.length
  | [], _ => by simp
  | d :: xs, out => by
    rw [List.foldl_cons, len_out xs, List.length_cons]
    have e : (wrapO out d).length = out.length + 2 := by simp [wrapO]
    omega

theorem plainLaw (script : List Int) : PlainL script := by
  refine Classical.byContradiction fun hNo => ?_
  obtain ⟨n0, n1, n2, rest, hn, hl⟩ := numbers_shape script
  refine hNo ?_
  clear hNo
  have hi := fam_lt script
  have hds : lettersP script = (dtP (familyP script) n0).d :: (dtP (familyP script) n1).d :: (dtP (familyP script) n2).d :: (rest.map (dtP (familyP script))).map DT.d := by
    unfold lettersP; rw [hn]; simp [dtP, Function.comp_def]
  refine ⟨by rw [hn]; simp; omega, ?_⟩
  generalize leftP script = left
  generalize hfi : familyP script = i at hi hds
  have D : ∀ n, DrT i (dtP i n).d (dtP i n).at' := fun n => drT_drawn i n
  have hu : ∀ n, (dtP i n).d.und = 0 ∨ (dtP i n).d.und = 1 := fun n => (D n).und
  have Dx : ∀ x ∈ rest.map (dtP i), DrT i x.d x.at' := fun x hx => by obtain ⟨n, _, rfl⟩ := List.mem_map.mp hx; exact D n
  have hux : ∀ x ∈ rest.map (dtP i), x.d.und = 0 ∨ x.d.und = 1 := fun x hx => (Dx x hx).und
  have l2 : ∀ n u, (runU (dtP i n).d u).length ≤ 2 := fun n u => len_runU hi u
  have lx : ∀ x ∈ rest.map (dtP i), ∀ u, (runU x.d u).length ≤ 2 := fun x hx u => by obtain ⟨n, _, rfl⟩ := List.mem_map.mp hx; exact l2 n u
  have ix : ∀ x ∈ rest.map (dtP i), ∀ u, InL (fam i).first (fam i).second (runU x.d u) := fun x hx u => by obtain ⟨n, _, rfl⟩ := List.mem_map.mp hx; exact inL_runU hi u
  have hlx : (rest.map (dtP i)).length ≤ 2 := by rw [List.length_map]; exact hl
  refine Classical.byContradiction fun hNo => ?_
  obtain ⟨p1, p2, p3⟩ := parse hi left (D n0) (D n1) (D n2) Dx (Nat.le_trans (l2 _ _) (by decide)) (Nat.le_trans (l2 _ _) (by decide)) (Nat.le_trans (l2 _ _) (by decide))
  refine hNo ?_
  clear hNo
  rw [← hds] at p1 p2 p3
  refine ⟨p1, p2, ?_⟩
  have T := third_run left (hu n0) (hu n1) (hu n2) hux
  refine Classical.byContradiction fun hNo => ?_
  obtain ⟨n, t, C, hsz, hown⟩ := cn_run (signP i 0).1 left (dtP i n0) (dtP i n1) (dtP i n2) hux hlx
  refine hNo ?_
  clear hNo
  have hfl := flat_out left (dtP i n0) (dtP i n1) (dtP i n2) (rest.map (dtP i))
  have hlo : (outP left (dtP i n0) (dtP i n1) (dtP i n2) (rest.map (dtP i))).length ≤ 5 := by
    unfold outP; rw [len_out]; simp only [List.length_singleton]; omega
  have lu : ∀ r : Run, (undoneP r).length = r.length := fun r => by simp [undoneP]
  have hlr : (runP left (dtP i n0) (dtP i n1) (dtP i n2) (rest.map (dtP i))).length ≤ 200 := by
    have h1 := len_wraps (rest.map (dtP i)) (coreR left (runU (dtP i n0).d (dtP i n0).d.und) (runU (dtP i n1).d (dtP i n1).d.und) (runU (dtP i n2).d (dtP i n2).d.und)) lx
    have h2 := l2 n0 (dtP i n0).d.und
    have h3 := l2 n1 (dtP i n1).d.und
    have h4 := l2 n2 (dtP i n2).d.und
    unfold runP
    refine Nat.le_trans h1 ?_
    have lc2 : ∀ f g : Run, (commP f g).length = 2 * (f.length + g.length) := fun f g => by simp [commP, lu]; omega
    cases left with
    | true => show (commP (commP _ _) _).length + _ ≤ _; rw [lc2, lc2]; omega
    | false => show (commP _ (commP _ _)).length + _ ≤ _; rw [lc2, lc2]; omega
  have hin : InL (fam i).first (fam i).second (runP left (dtP i n0) (dtP i n1) (dtP i n2) (rest.map (dtP i))) := by
    refine inL_wraps _ _ ix ?_
    have k := fun n => inL_runU (n := n) hi (drawnP i n).und
    cases left with
    | true => exact ((k n0).comm (k n1)).comm (k n2)
    | false => exact (k n0).comm ((k n1).comm (k n2))
  refine ⟨_, p3, ?_⟩
  dsimp only
  rw [hfl]
  rw [← hds] at hsz hown
  generalize runP left (dtP i n0) (dtP i n1) (dtP i n2) (rest.map (dtP i)) = run at *
  have hrl : (entryP (signP i 0).1 run).rows.length ≤ 1000 := by
    have h1 : Few (fam i).first (fam i).second (entryP (signP i 0).1 run).rows := few_entry hin (few_0 _ _)
    have := h1.len
    omega
  have E := ent_fold (signP i 0).1 run entry0
  obtain ⟨E1, E2⟩ := entry_ser (signP i 0).1 run
  have ES : Short (entryP (signP i 0).1 run).rows := short_entry (signP i 0).1 run entry0 told0.short
  have TP := toldPre_ok left (dtP i n0).d (dtP i n1).d (dtP i n2).d
  have hS : ser (entryP (signP i 0).1 run).rows = ser (toldPre left (dtP i n0).d (dtP i n1).d (dtP i n2).d) := by
    rw [E1]
    exact Ser.ext' (T.c0.trans TP.c0.symm) (fun a => (T.c1 a).trans (TP.c1 a).symm) (fun a b => (T.c2 a b).trans (TP.c2 a b).symm) fun a b c => (T.c3 a b c).trans (TP.c3 a b c).symm
  have hv := same_val ES TP.short hS
  have htold : toldP left ((lettersP script).getD 0 ⟨[], 0, [], 0⟩) ((lettersP script).getD 1 ⟨[], 0, [], 0⟩) ((lettersP script).getD 2 ⟨[], 0, [], 0⟩) = nonZero (toldPre left (dtP i n0).d (dtP i n1).d (dtP i n2).d) := by
    rw [hds]; rfl
  rw [htold]
  generalize hrw : (entryP (signP i 0).1 run).rows = rows at *
  generalize toldPre left (dtP i n0).d (dtP i n1).d (dtP i n2).d = pre at *
  have hg : ∀ k, getI (nonZero rows) k = getI (nonZero pre) k := fun k => by
    rw [nonZero_eq E2, nonZero_eq TP.nd, getI_filter E2, getI_filter TP.nd, hv]
  have nd1 : ND (nonZero rows) := by rw [nonZero_eq E2]; exact nd_filter E2 _
  have nd2 : ND (nonZero pre) := by rw [nonZero_eq TP.nd]; exact nd_filter TP.nd _
  have hp := perm_of nd1 nd2 hg
  refine ⟨⟨C.tr, hin, hlr, hlo⟩, ?_, ?_, ?_, ?_, hg, hp.length_eq, ?_, ?_, nd1, hrl⟩
  · show (run.foldl (stepE (signP i 0).1) entry0).cc = _
    rw [E.1, C.c, ← hsz]
    show (0 : Int) + _ = _
    omega
  · show (run.foldl (stepE (signP i 0).1) entry0).nc = _
    rw [E.2.1, C.n, ← hsz]
    show (0 : Int) + _ = _
    omega
  · show (run.foldl (stepE (signP i 0).1) entry0).tt = _
    rw [E.2.2.1, C.t, ← hown]
    show (0 : Int) + _ = _
    omega
  · show (run.foldl (stepE (signP i 0).1) entry0).ct = _
    rw [E.2.2.2, C.o, ← hown]
    show (0 : Int) + _ = _
    omega
  · rw [sumRows_eq, ← sumF_filter, ← nonZero_eq E2, sumF_perm hp, nonZero_eq TP.nd, sumF_filter]; exact TP.sum
  · rw [sumRows_eq, above_eq nd1, foldl_sum, List.filter_map]
    have := sumF_perm (hp.filter fun p => decide (p.2 > 0))
    rw [this]
    unfold sumF
    simp [Function.comp_def]
end Mine
end
section
open PySem PySem.W PySem.Calls PyProof.Rows
set_option maxRecDepth 100000
set_option linter.unusedVariables false
set_option linter.unusedSimpArgs false
namespace Mine

/-! ## the text is short, its units are small -/
theorem txt_plains_len : ∀ ts : List Tk, (txt (plains ts)).length ≤ (txt ts).length
  | [] => Nat.le_refl _
  | t :: ts => by
    have h := txt_plains_len ts
    rw [txt_cons, List.length_append]
    cases t with
    | ch c => rw [show plains (Tk.ch c :: ts) = Tk.ch c :: plains ts from rfl, txt_cons, List.length_append]; omega
    | bs c => rw [show plains (Tk.bs c :: ts) = Tk.bs c :: plains ts from rfl, txt_cons, List.length_append]; omega
    | quo => rw [show plains (Tk.quo :: ts) = plains ts from rfl]; omega
theorem txt_len : ∀ ts : List Tk, ts.length ≤ (txt ts).length
  | [] => Nat.le_refl _
  | t :: ts => by
    have h := txt_len ts
    rw [txt_cons, List.length_append, List.length_cons]
    have : 1 ≤ t.text.length := by cases t <;> simp [Tk.text]
    omega
theorem text_fits (script : List Int) : (stripPure (textP (leftP script) (lettersP script))).length ≤ (textP (leftP script) (lettersP script)).length ∧
    (unitsP (textP (leftP script) (lettersP script))).length ≤ (textP (leftP script) (lettersP script)).length ∧ ∀ u ∈ unitsP (textP (leftP script) (lettersP script)), u ≠ [] ∧ u.length ≤ 2 := by
  refine Classical.byContradiction fun hNo => ?_
  obtain ⟨n0, n1, n2, rest, hn, hl⟩ := numbers_shape script
  refine hNo ?_
  clear hNo
  have hi := fam_lt script
  have hds : lettersP script = (dtP (familyP script) n0).d :: (dtP (familyP script) n1).d :: (dtP (familyP script) n2).d :: (rest.map (dtP (familyP script))).map DT.d := by
    unfold lettersP; rw [hn]; simp [dtP, Function.comp_def]
  generalize leftP script = left
  generalize hfi : familyP script = i at hi hds
  have D : ∀ n, DrT i (dtP i n).d (dtP i n).at' := fun n => drT_drawn i n
  have Dx : ∀ x ∈ rest.map (dtP i), DrT i x.d x.at' := fun x hx => by obtain ⟨n, _, rfl⟩ := List.mem_map.mp hx; exact D n
  have l2 : ∀ n u, (runU (dtP i n).d u).length ≤ 2 := fun n u => len_runU hi u
  have G := good_wraps (k := 2) hi (rest.map (dtP i)) Dx _ _ (good_core hi left (D n0) (D n1) (D n2) (Nat.le_trans (l2 _ _) (by decide)) (Nat.le_trans (l2 _ _) (by decide)) (Nat.le_trans (l2 _ _) (by decide)))
  have e : textP left (lettersP script) = txt ((rest.map (dtP i)).foldl wrapT (coreT left (partT (dtP i n0).d (dtP i n0).at') (partT (dtP i n1).d (dtP i n1).at') (partT (dtP i n2).d (dtP i n2).at'))) := by
    rw [hds, txt_wraps _ Dx, txt_core, txt_part (D n0).ah, txt_part (D n1).ah, txt_part (D n2).ah]; rfl
  rw [e]
  generalize (rest.map (dtP i)).foldl wrapT _ = ts at G
  refine ⟨by rw [strip_txt G.ok]; exact txt_plains_len ts, by rw [units_txt G.ok, List.length_map]; exact Nat.le_trans (txt_len _) (txt_plains_len ts), fun u hu => ?_⟩
  rw [units_txt G.ok] at hu
  refine Classical.byContradiction fun hNo => ?_
  obtain ⟨t, ht, rfl⟩ := List.mem_map.mp hu
  refine hNo ?_
  clear hNo
  have hp := (List.mem_filter.mp ht).2
  cases t with
  | ch c => simp [Tk.text]
  | bs c => simp [Tk.text]
  | quo => cases hp

/-! ## numbers as ints -/
theorem drawn_ints (script : List Int) : ((script.take 5).map fun n => n.fmod (10 ^ 6)) = (drawnN script).map fun n : Nat => (n : Int) := by
  unfold drawnN
  rw [List.map_map]
  apply List.map_congr_left
  intro n _
  have h : 0 ≤ n.fmod (10 ^ 6) := by rw [Int.fmod_eq_emod_of_nonneg _ (by decide)]; exact Int.emod_nonneg _ (by decide)
  simp only [Function.comp]
  omega
theorem nums_ints (script : List Int) : ((((script.take 5).map fun n => n.fmod (10 ^ 6)) ++ [(54 : Int), 38, 23].drop ((script.take 5).map fun n => n.fmod (10 ^ 6)).length).take 3 ++ ((script.take 5).map fun n => n.fmod (10 ^ 6)).drop 3) = (numbersP script).map fun n : Nat => (n : Int) := by
  rw [drawn_ints]
  unfold numbersP
  rw [List.map_append, List.map_take, List.map_append, List.map_drop, List.map_drop, List.length_map]
  rfl
theorem sum_ints (l : List Nat) : (l.map fun n : Nat => (n : Int)).sum = ((l.sum : Nat) : Int) := by
  induction l with
  | nil => rfl
  | cons a l ih => rw [List.map_cons, List.sum_cons, List.sum_cons, ih]; omega
theorem nums_small (script : List Int) : ∀ n ∈ numbersP script, n < 10 ^ 6 := by
  have hd : ∀ n ∈ drawnN script, n < 10 ^ 6 := fun n hn => by
    refine Classical.byContradiction fun hNo => ?_
    obtain ⟨x, _, rfl⟩ := List.mem_map.mp hn
    refine hNo ?_
    clear hNo
    have h1 : 0 ≤ x.fmod (10 ^ 6) := by rw [Int.fmod_eq_emod_of_nonneg _ (by decide)]; exact Int.emod_nonneg _ (by decide)
    have h2 : x.fmod (10 ^ 6) < 10 ^ 6 := by rw [Int.fmod_eq_emod_of_nonneg _ (by decide)]; exact Int.emod_lt_of_pos _ (by decide)
    omega
  intro n hn
  unfold numbersP at hn
  rcases List.mem_append.mp hn with hn | hn
  · rcases List.mem_append.mp (List.mem_of_mem_take hn) with hn | hn
    · exact hd n hn
    · have := List.mem_of_mem_drop hn
      simp only [List.mem_cons, List.not_mem_nil, or_false] at this
      rcases this with rfl | rfl | rfl <;> decide
  · exact hd n (List.mem_of_mem_drop hn)
theorem sum_small : ∀ (l : List Nat), (∀ n ∈ l, n < 10 ^ 6) → l.sum ≤ l.length * 10 ^ 6
  | [], _ => by simp
  | a :: l, h => by
    have h1 := sum_small l fun n hn => h n (by simp [hn])
    have h2 := h a (by simp)
    rw [List.sum_cons, List.length_cons, Nat.succ_mul]; omega
theorem zip_size (ws : List Nat) (ds : List Dr) : ((ws.zip (ds.map Dr.word)).map fun p => (p.1 : Int) * (p.2.length : Int)).sum = ((((ws.zip ds).map fun p => p.1 * p.2.word.length).sum : Nat) : Int) := by
  rw [← sum_ints, List.zip_map_right, List.map_map, List.map_map]
  congr 1
theorem zip_own (f : Nat) (ws : List Nat) (ds : List Dr) : ((ws.zip (ds.map Dr.word)).map fun p => (p.1 : Int) * ((p.2.filter (· = f)).length : Int)).sum = ((((ws.zip ds).map fun p => p.1 * (p.2.word.filter (· = f)).length).sum : Nat) : Int) := by
  rw [← sum_ints, List.zip_map_right, List.map_map, List.map_map]
  congr 1
theorem first_word {i : Nat} (hi : i < 4) : (signP i 0).2 = [(signP i 0).1] := by
  have h : ((List.range 4).all fun i => decide ((signP i 0).2 = [(signP i 0).1])) = true := by decide +kernel
  exact of_decide_eq_true (List.all_eq_true.mp h i (List.mem_range.mpr hi))
theorem size_small (left : Bool) (ds : List Dr) (h : ∀ d ∈ ds, d.word.length ≤ 2) (f : Nat) : sizeP left ds < 2 ^ 20 ∧ ownP left f ds < 2 ^ 20 := by
  have key : ∀ (ws : List Nat) (ds : List Dr) (g : Dr → Nat), (∀ d ∈ ds, g d ≤ 2) → (∀ n ∈ ws, n ≤ 4) → ((ws.zip ds).map fun p => p.1 * g p.2).sum ≤ ws.length * 8 := by
    intro ws
    induction ws with
    | nil => intro ds g _ _; simp
    | cons n ws ih =>
      intro ds g hd hw
      cases ds with
      | nil => simp
      | cons d ds =>
        have h1 := ih ds g (fun x hx => hd x (by simp [hx])) fun x hx => hw x (by simp [hx])
        have h2 : n * g d ≤ 4 * 2 := Nat.mul_le_mul (hw n (by simp)) (hd d (by simp))
        rw [List.zip_cons_cons, List.map_cons, List.sum_cons, List.length_cons]
        show n * g d + _ ≤ _
        omega
  have hw : (weightsP left).length = 5 ∧ ∀ n ∈ weightsP left, n ≤ 4 := by cases left <;> simp [weightsP]
  have k1 := key (weightsP left) ds (fun d => d.word.length) h hw.2
  have k2 := key (weightsP left) ds (fun d => (d.word.filter (· = f)).length) (fun d hd => Nat.le_trans (List.length_filter_le ..) (h d hd)) hw.2
  rw [hw.1] at k1 k2
  unfold sizeP ownP
  omega
end Mine
end
section
open PySem PySem.W PySem.Calls PyProof.Rows
set_option maxRecDepth 100000
set_option linter.unusedVariables false
set_option linter.unusedSimpArgs false
namespace Mine

section
variable {prog : Program} {w : World} {A : Around} {s s₀ sb : Shared} {env : Env} {R R' R₀ : Heap} {X pv : List Addr} {L a : Addr} {cd : Value} {m : Str → Option Value} {mg mb : Str → Option Value} {c1 c2 : Option Value}

/-- the values of a dict, ready -/
theorem valuesReady (F : Fm s₀ R X L m s) (hX : ∀ y ∈ X, (s.heap.get? y).isSome = true) (hLX : L ∉ X) {d : Addr} {kvs : List (Str × Value)} {ep : Nat} (hd : R.DictAt (strKind prog w) d kvs ep) {Q : Value → Shared → Prop}
    (h : ∀ s₁ I, d ≠ I → ItReady s₀ s s₁ R X [I] [I, d] [I] L m → s₁.heap.IsValIter I d 0 kvs.length ep → s₁.heap.DictAt (strKind prog w) d kvs ep → Q (.ref I) s₁) :
    wpAny (model prog w) A (pyIter (.ref s.heap.objs.size)) Q NoE { s with heap := s.heap.push { cls := .type "dict_values", data := .fields #[.ref d] } } := by
  have F₂ := F.push (tk := s.toks) { cls := .type "dict_values", data := .fields #[.ref d] }
  have hz0 := get_size_none s.heap
  refine wpAny_pyIter_values (knd := strKind prog w) (kvs := kvs) (ep := ep) ⟨_, Heap.get?_push_size _ rfl, rfl, rfl⟩ (hd.at fun o e => F₂.has _ o e) ?_
  have F₃ := F₂.new (tk := s.toks) { cls := .type "dict_valueiterator", data := .fields #[.ref d, .int 0 0, .int kvs.length 0, .int ep 0] }
  have hIt : ((s.heap.push { cls := .type "dict_values", data := .fields #[.ref d] }).push { cls := .type "dict_valueiterator", data := .fields #[.ref d, .int 0 0, .int kvs.length 0, .int ep 0] }).IsValIter (s.heap.push { cls := .type "dict_values", data := .fields #[.ref d] }).objs.size d 0 kvs.length ep := ⟨_, Heap.get?_push_size _ rfl, rfl, rfl⟩
  have K₃ : Sub s.heap ((s.heap.push { cls := .type "dict_values", data := .fields #[.ref d] }).push { cls := .type "dict_valueiterator", data := .fields #[.ref d, .int 0 0, .int kvs.length 0, .int ep 0] }) := (sub_push _ _).trans (sub_push _ _)
  have hsI : s.heap.get? (s.heap.push { cls := .type "dict_values", data := .fields #[.ref d] }).objs.size = none := get_ge_none (by rw [Heap.size_push]; exact Nat.le_succ _)
  have hLi : L ≠ (s.heap.push { cls := .type "dict_values", data := .fields #[.ref d] }).objs.size := Nat.ne_of_lt F₂.lt
  generalize ((s.heap.push { cls := .type "dict_values", data := .fields #[.ref d] }).push { cls := .type "dict_valueiterator", data := .fields #[.ref d, .int 0 0, .int kvs.length 0, .int ep 0] }) = H3 at F₃ hIt K₃ ⊢
  generalize (s.heap.push { cls := .type "dict_values", data := .fields #[.ref d] }).objs.size = it at F₃ hsI hIt hLi ⊢
  obtain ⟨od, hod⟩ := dictAt_get hd
  have hdI : d ≠ it := F₃.ne hod (by simp)
  have hLd : L ≠ d := fun e => by have := (F.out L (by simp)).1; rw [e, hod] at this; cases this
  have hIlive : (H3.get? it).isSome = true := by obtain ⟨o, ho, _⟩ := hIt; rw [ho]; rfl
  refine h { s with heap := H3 } it hdI ⟨F₃, fun b hb => hb, fun y hy => by obtain rfl := List.mem_singleton.mp hy; exact hIlive, hX, fun y hy => ?_, K₃, fun y hy => by obtain rfl := List.mem_singleton.mp hy; exact hsI, fun hm => ?_, fun hm => ?_⟩ hIt (hd.at fun o e => F₃.has _ o e)
  · simp only [List.mem_cons, List.not_mem_nil, or_false] at hy
    rcases hy with rfl | rfl
    · exact hIlive
    · show (H3.get? y).isSome = true
      rw [F₃.has _ _ hod]; rfl
  · rcases List.mem_cons.mp hm with e | hm
    · exact hLi e
    · exact hLX hm
  · simp only [List.mem_cons, List.not_mem_nil, or_false] at hm
    rcases hm with e | e
    · exact hLi e
    · exact hLd e

theorem vals_int : ∀ {kvs : List (Str × Value)} {l : Kv} {i : Nat} {k : Str} {v : Value}, All2 rowOk kvs l → kvs[i]? = some (k, v) → ∃ n, (l.map (·.2))[i]? = some n ∧ ∃ t, v = .int n t := by
  intro kvs l i k v h hk
  refine Classical.byContradiction fun hNo => ?_
  obtain ⟨p, hp, hr⟩ := h.get hk
  refine hNo ?_
  clear hNo
  exact ⟨p.2, by rw [List.getElem?_map, hp]; rfl, hr.2⟩

theorem sum_foldr (l : List Int) : l.sum = l.foldl (· + ·) 0 := by
  rw [foldl_sum]
  induction l with
  | nil => rfl
  | cons x l ih => rw [List.sum_cons, List.foldr_cons, ih]; omega

theorem testGtI {cenv : Env} {R₁ : Heap} {XX : List Addr} {C : Addr} {mc : Str → Option Value} {s₁ : Shared} {n : Int} {tv : Tok} {p1 p2 p3 : Pos} {k : Nat} (F : Fm s₀ R₁ XX C mc s₁) (mv : mc "count" = some (.int n tv))
    (hl : cenv.kindOf "count" = some .local) (hk : cenv.scope.kind = .function) (hL : cenv.locals = C) :
    wpAny (model prog w) A (tests [.Compare (.Name "count" p1) [.Gt] [.Constant (.int 0) k p2] p3] cenv) (fun ok s' => ok = decide (n > 0) ∧ ∃ t, s' = { s₁ with toks := t }) NoE s₁ := by
  refine wpAny_tests_one (wpAny_isTrue_Compare1 (nmL F mv (wpAny_Constant_int (PySem.P.gt_int (wpAny_truthy_bool ⟨?_, _, rfl⟩))) hl hk hL))
  simp

set_option maxHeartbeats 1000000 in
/-- sum([count for count in told.values() if count > 0]) -/
theorem sumPos {scope : Scope} {p1 p2 p3 p4 p5 p6 p7 p8 p9 p10 p11 : Pos} {k1 : Nat} {Q : Value → Shared → Prop} (G : GE prog w mg mb R₀) (hA : AOk A 4) (hR : Sub R₀ R) (Z : LF s₀ R L m s c1 c2) {d : Addr} {told : Kv} (hm : m "told" = some (.ref d)) (hd : IsRows prog w R d told) (hn : told.length ≤ 1000)
    (hclos : closureFor scope (e21 L a cd) = pure []) (hcell : ∀ y ∈ scope.names, y.2 ≠ .cell) (hkind : scope.kind = .function) (hnames : ∀ y ∈ scope.names, y.2 = .local → scope.names.lookup y.1 = some .local)
    (hk2 : ∀ C, (compEnvC scope [] C (e21 L a cd)).kindOf "count" = some .local) (hline : (p4.endLine == p5.line) = true)
    (h : ∀ R' s' t, Grow R R' s₀.heap → LF s₀ R' L m s' c1 c2 → Q (.int (((told.map (·.2)).filter (· > 0)).foldl (· + ·) 0) t) s') :
    wpAny (model prog w) A (eval (.Call (.Name "sum" p1) [.ListComp (.Name "count" p2) [⟨.Name "count" p3, .Call (.Attribute (.Name "told" p6) "values" p4) [] [] p5, [.Compare (.Name "count" p7) [.Gt] [.Constant (.int 0) k1 p8] p9], 0⟩] scope p10] [] p11) (e21 L a cd)) Q NoE s := by
  have GG := G.keeps hR
  refine Call_ (nmB Z.F GG.g GG.b GG.sum.1 GG.sum.2 (PyProof.Rows.callWith_builtin1 ?_ ?_ ?_))
  case refine_2 => rfl
  case refine_3 => rfl
  refine args_cons ?_ rfl
  refine evalL hclos hcell hkind hnames ?_ (fun _ => rfl)
  refine Classical.byContradiction fun hNo => ?_
  obtain ⟨lo, kvs, ep, hdat, hall⟩ := hd
  refine hNo ?_
  clear hNo
  have hlk := hall.length
  refine eval_values lo (hdat.at fun o e => Z.F.has _ o e).dictOf rfl hline (fun Q' q => nmL Z.F hm q) ?_
  refine valuesReady Z.F Z.live (by simp) hdat fun s₁ I hdI T hIt hD => ?_
  have W := Walks.dictValues (prog := prog) (w := w) (A := A) (knd := strKind prog w) hA.hh I d hdI kvs ep
  have hle : kvs.length = (told.map (·.2)).length := by rw [List.length_map, hlk]
  have W' : Walks prog w A I [I, d] [I] (told.map (·.2)).length (fun i v => ∃ k, kvs[i]? = some (k, v)) (fun i h => h.IsValIter I d i kvs.length ep ∧ h.DictAt (strKind prog w) d kvs ep) := by rw [← hle]; exact W
  refine loopsW (V := fun (n : Int) v => ∃ t, v = Value.int n t) (P := isI) (fy := fun n : Int => n) (pz := fun n : Int => decide (n > 0)) (xs := told.map (·.2)) hA.hh W' T ⟨hIt, hD⟩ ?_ ?_ (by rw [List.length_map]; exact hn) monoI hk2 hkind ?_ ?_
  · intro i h x y hy
    obtain rfl := List.mem_singleton.mp hy
    refine Classical.byContradiction fun hNo => ?_
    obtain ⟨o, ho, _⟩ := x.1
    refine hNo ?_
    clear hNo
    rw [ho]; rfl
  · rintro i v ⟨k, hk⟩
    refine Classical.byContradiction fun hNo => ?_
    obtain ⟨n, h1, h2⟩ := vals_int hall hk
    refine hNo ?_
    clear hNo
    exact ⟨n, h1, h2⟩
  · intro C n s₃ R₃ XX mc hmem g₃ F₃ hXX hCX hsub hJo
    refine Classical.byContradiction fun hNo => ?_
    obtain ⟨v, hv, t, rfl⟩ := hJo
    refine hNo ?_
    clear hNo
    refine wpAny_mono (testGtI F₃ hv (hk2 C) (by simp [compEnvC, relabel, hkind]) rfl) (fun ok s₄ q => ?_) fun _ _ q => q
    refine Classical.byContradiction fun hNo => ?_
    obtain ⟨rfl, tk, rfl⟩ := q
    refine hNo ?_
    clear hNo
    exact ⟨rfl, ⟨tk, rfl⟩, fun _ => nmL F₃.tok hv ⟨R₃, Grow.refl _ _, F₃.tok, Sub.refl _, t, rfl⟩ (hk2 C) (by simp [compEnvC, relabel, hkind]) rfl⟩
  · intro B C mc R' s' g Fc hLC hLB hBC hBX hns mk hsub hsC
    refine listDoneE (s := s) (X := [L + 2, L + 1]) monoI g Fc (fun x hx => List.mem_append_right _ hx) T.hLX hLC hLB hBC hBX hns mk hsub hsC fun R₂ s₂ vs g₂ F₂ hp al k => ?_
    refine args_nil ?_
    rw [List.map_id'] at al
    refine sumL hA.hh F₂.has ⟨B, vs, rfl, hp, al⟩ fun h' tk t hk => ?_
    have Z₂ : LF s₀ R₂ L m s₂ c1 c2 := ⟨F₂, isCell_kb (Y := []) Z.k1 (KB.of_sub k) (by simp), isCell_kb (Y := []) Z.k2 (KB.of_sub k) (by simp)⟩
    rw [sum_foldr]
    exact h R₂ _ t g₂ (Z₂.keep hk)
end
end Mine
end
section
open PySem PySem.W PySem.Calls PyProof.Rows
set_option maxRecDepth 100000
set_option linter.unusedVariables false
set_option linter.unusedSimpArgs false
namespace Mine

section
variable {prog : Program} {w : World} {A : Around} {s s₀ sb : Shared} {env : Env} {R R' R₀ : Heap} {X pv : List Addr} {L a : Addr} {cd : Value} {m : Str → Option Value} {mg mb : Str → Option Value} {c1 c2 : Option Value}

theorem hits_of {A : Around} : ∀ {ka kb : List (Str × Value)} {la lb : Kv}, All2 rowOk ka la → All2 rowOk kb lb → (∀ p ∈ la, getI lb p.1 = some p.2) → KeqHits A s kb ka true
  | [], _, [], _, _, _, _ => .nil
  | (k, v) :: ka, kb, p :: la, lb, h, hb, hg => by
    refine Classical.byContradiction fun hNo => ?_
    obtain ⟨⟨h1, t, h2⟩, hr⟩ := h
    refine hNo ?_
    clear hNo
    dsimp only at h1 h2
    subst h2
    have hv := getI_of hb p.1
    rw [hg p (by simp)] at hv
    obtain ⟨t', ht'⟩ := hv
    rw [h1]
    have e := SeqAt.EqAt.int_int (A := A) (s := s) p.2 t p.2 t'
    have := KeqHits.hit (k := p.1) (v := Value.int p.2 t) ht' e (hits_of hr hb fun q hq => hg q (by simp [hq]))
    simpa using this
  | [], _, _ :: _, _, h, _, _ => h.elim
  | _ :: _, _, [], _, h, _, _ => h.elim

/-- rows == told -/
theorem rowsEq (hu : A.units < cLine) (Z : LF s₀ R L m s c1 c2) {d1 d2 : Addr} {la lb : Kv} (h1 : IsRows prog w R d1 la) (h2 : IsRows prog w R d2 lb) (hl : la.length = lb.length) (hg : ∀ p ∈ la, getI lb p.1 = some p.2) {Q : Value → Shared → Prop} (h : Q (.bool true) s) :
    wpAny (model prog w) A (compareOp .Eq (.ref d1) (.ref d2)) Q NoE s := by
  refine Classical.byContradiction fun hNo => ?_
  obtain ⟨lo1, ka, ep1, hd1, al1⟩ := h1
  obtain ⟨lo2, kb, ep2, hd2, al2⟩ := h2
  refine hNo ?_
  clear hNo
  have e1 := al1.length
  have e2 := al2.length
  refine keq_eq (knd := strKind prog w) (r := true) lo1 lo2 (hd1.at fun o e => Z.F.has _ o e).dictOf (hd2.at fun o e => Z.F.has _ o e).dictOf hu (fun _ => hits_of al1 al2 hg) ?_
  have : (ka.length == kb.length && true) = true := by rw [e1, e2, hl]; simp
  rw [this]; exact h

set_option maxHeartbeats 1000000 in
/-- entry[:4] == (size // 2, size, own, own // 2) -/
theorem fourEq {p1 p2 p3 p4 p5 p6 p7 p8 p9 p10 p11 p12 p13 p14 : Pos} {k1 k2 k3 kt : Nat} (hu : A.units < cLine) (Z : LF s₀ R L m s c1 c2) {T d : Addr} {e : Ent} {t1 t2 t3 t4 : Tok} (hm : m "entry" = some (.ref T)) (hT : R.IsTuple T #[.int e.cc t1, .int e.nc t2, .int e.tt t3, .int e.ct t4, .ref d])
    {sz ow : Nat} {u1 u2 : Tok} (hs : m "size" = some (.int (sz : Int) u1)) (ho : m "own" = some (.int (ow : Int) u2)) (hz : sz < 2 ^ 20 ∧ ow < 2 ^ 20) (e1 : e.cc = ((sz / 2 : Nat) : Int)) (e2 : e.nc = (sz : Int)) (e3 : e.tt = (ow : Int)) (e4 : e.ct = ((ow / 2 : Nat) : Int)) {Q : Value → Shared → Prop}
    (h : ∀ s', LF s₀ R L m s' c1 c2 → Q (.bool true) s') :
    wpAny (model prog w) A (eval (.Compare (.Subscript (.Name "entry" p1) (.Slice none (some (.Constant (.int 4) k1 p2)) none p3) p4) [.Eq] [.Tuple [.BinOp (.Name "size" p5) .FloorDiv (.Constant (.int 2) k2 p6) p7, .Name "size" p8, .Name "own" p9, .BinOp (.Name "own" p10) .FloorDiv (.Constant (.int 2) k3 p11) p12] kt p13] p14) (e21 L a cd)) Q NoE s := by
  refine wpAny_Compare1 ?_
  refine Subscript_ (nmL Z.F hm ?_)
  refine wpAny_Slice ?_
  refine evalPart_none_step ?_
  refine evalPart_some_step ?_
  refine wpAny_Constant_int ?_
  refine evalPart_none_step ?_
  have hT1 := isTuple_keeps hT Z.F.has
  have hT2 : Heap.IsTuple (s.heap.push { cls := .type "slice", data := .fields #[.none, .int 4 s.toks, .none] }) T #[.int e.cc t1, .int e.nc t2, .int e.tt t3, .int e.ct t4, .ref d] := isTuple_keeps hT1 (sub_push _ _)
  refine tail_any (T := "tuple") (ops := [.ref s.heap.objs.size, .ref T]) (Heap.IsTuple.typeIs hT2) PyProof.Rows.slot_tuple_getitem.lookup ?_ rfl
  refine four_of_five hT2 (Heap.IsSliceOf.new ..) ?_
  have k2 : Sub s.heap ((s.heap.push { cls := .type "slice", data := .fields #[.none, .int 4 s.toks, .none] }).push { cls := .type "tuple", data := .seq #[.int e.cc t1, .int e.nc t2, .int e.tt t3, .int e.ct t4] }) := (sub_push _ _).trans (sub_push _ _)
  have hT4 : Heap.IsTuple ((s.heap.push { cls := .type "slice", data := .fields #[.none, .int 4 s.toks, .none] }).push { cls := .type "tuple", data := .seq #[.int e.cc t1, .int e.nc t2, .int e.tt t3, .int e.ct t4] }) (s.heap.push { cls := .type "slice", data := .fields #[.none, .int 4 s.toks, .none] }).objs.size #[.int e.cc t1, .int e.nc t2, .int e.tt t3, .int e.ct t4] := ⟨_, Heap.get?_push_size _ rfl, rfl, _, rfl⟩
  dsimp only
  generalize ((s.heap.push { cls := .type "slice", data := .fields #[.none, .int 4 s.toks, .none] }).push { cls := .type "tuple", data := .seq #[.int e.cc t1, .int e.nc t2, .int e.tt t3, .int e.ct t4] }) = H1 at k2 hT4 ⊢
  generalize (s.heap.push { cls := .type "slice", data := .fields #[.none, .int 4 s.toks, .none] }).objs.size = T4 at hT4 ⊢
  have Z₁ := Z.keep (h' := H1) (tk := s.toks + 1) k2
  refine Tuple_ ?_
  refine args_cons (wpAny_BinOp (nmL Z₁.F hs (wpAny_Constant_int (PyProof.Rows.floordiv_int (by decide) ?_ (Or.inl (PyProof.noPylong_of_log2 (by decide))))))) rfl
  have f1 : (sz : Int).fdiv 2 = ((sz / 2 : Nat) : Int) := fdivN sz 2 (by decide)
  rw [f1]
  have Z₂ := Z₁.tok (tk := s.toks + 1 + 1 + 1)
  refine args_cons (nmL Z₂.F hs ?_) rfl
  refine args_cons (nmL Z₂.F ho ?_) rfl
  refine args_cons (wpAny_BinOp (nmL Z₂.F ho (wpAny_Constant_int (PyProof.Rows.floordiv_int (by decide) ?_ (Or.inl (PyProof.noPylong_of_log2 (by decide))))))) rfl
  have f2 : (ow : Int).fdiv 2 = ((ow / 2 : Nat) : Int) := fdivN ow 2 (by decide)
  rw [f2]
  have Z₃ := Z₂.tok (tk := s.toks + 1 + 1 + 1 + 1 + 1)
  refine args_nil (wpAny_newTuple ?_)
  have eq : ∀ (a b : Int) (t u : Tok) (s : Shared), a = b → SeqAt.EqAt A.in1 s (.int a t) (.int b u) true := fun a b t u s h => by
    subst h
    have := SeqAt.EqAt.int_int (A := A.in1) (s := s) a t a u
    rwa [beq_self_eq_true] at this
  refine SeqAt.eq_tupleAt (e := fun _ => true) (isTuple_keeps hT4 (sub_push _ _)) ⟨_, Heap.get?_push_size _ rfl, rfl, _, rfl⟩ hu (fun j h1 h2 => ?_) ?_
  · have hj : j < 4 := h1
    rcases j with _ | _ | _ | _ | j
    · exact eq _ _ _ _ _ e1
    · exact eq _ _ _ _ _ e2
    · exact eq _ _ _ _ _ e3
    · exact eq _ _ _ _ _ e4
    · omega
  · exact h _ (Z₃.push _)
end
end Mine
end
section
open PySem PySem.W PySem.Calls PyProof.Rows
set_option maxRecDepth 100000
set_option linter.unusedVariables false
set_option linter.unusedSimpArgs false
namespace Mine

section
variable {prog : Program} {w : World} {A : Around} {s s₀ sb : Shared} {env : Env} {R R' R₀ : Heap} {X pv : List Addr} {L a : Addr} {cd : Value} {m : Str → Option Value} {mg mb : Str → Option Value} {c1 c2 : Option Value}

set_option maxHeartbeats 2000000 in
/-- the answer -/
theorem st21 (G : GE prog w mg mb R₀) (hA : AOk A 6) (hR : Sub R₀ R) (Z : LF s₀ R L m s c1 c2) {T d dr da dt : Addr} {e : Ent} {told : Kv} {t1 t2 t3 t4 : Tok} (hm : m "entry" = some (.ref T)) (hT : R.IsTuple T #[.int e.cc t1, .int e.nc t2, .int e.tt t3, .int e.ct t4, .ref d]) (hd : IsRows prog w R d e.rows)
    (hmr : m "rows" = some (.ref dr)) (hdr : IsRows prog w R dr (nonZero e.rows)) (hma : m "above" = some (.ref da)) (hda : IsRows prog w R da (aboveZero (nonZero e.rows))) (hmt : m "told" = some (.ref dt)) (hdt : IsRows prog w R dt told) (hnt : told.length ≤ 1000)
    {sz ow : Nat} {u1 u2 : Tok} (hs : m "size" = some (.int (sz : Int) u1)) (ho : m "own" = some (.int (ow : Int) u2)) (hz : sz < 2 ^ 20 ∧ ow < 2 ^ 20) (e1 : e.cc = ((sz / 2 : Nat) : Int)) (e2 : e.nc = (sz : Int)) (e3 : e.tt = (ow : Int)) (e4 : e.ct = ((ow / 2 : Nat) : Int))
    (hl : (nonZero e.rows).length = told.length) (hg : ∀ p ∈ nonZero e.rows, getI told p.1 = some p.2) (h1 : sumRows e.rows = 1) (h2 : sumRows (aboveZero (nonZero e.rows)) = ((told.map (·.2)).filter (· > 0)).foldl (· + ·) 0) {Q : Flow → Shared → Prop}
    (h : ∀ R' s', Grow R R' s₀.heap → LF s₀ R' L m s' c1 c2 → Q (.ret (.bool true)) s') :
    wpAny (model prog w) A (exec (ls 21) (e21 L a cd)) Q NoE s := by
  have GG := G.keeps hR
  have hu : A.units < cLine := hA.units
  refine wpAny_Return_some ?_
  refine BoolOp_and ?_
  refine fourEq hu Z hm hT hs ho hz e1 e2 e3 e4 fun s₁ Z₁ => ?_
  refine wpAny_truthy_bool ?_
  rw [if_pos rfl]
  refine BoolOp_and ?_
  refine wpAny_Compare1 (nmL Z₁.F hmr (nmL Z₁.F hmt ?_))
  refine rowsEq hu Z₁ hdr hdt hl hg ?_
  refine wpAny_truthy_bool ?_
  rw [if_pos rfl]
  refine BoolOp_and ?_
  refine wpAny_Compare1 ?_
  refine callF Z₁.F GG.g (GG.fns 3 (by simp)) rfl ?_
  refine args_cons ?_ rfl
  refine entry4 Z₁ hm hT ?_
  have Z₂ := Z₁.tok (tk := s₁.toks + 1)
  refine args_nil ⟨Z₂.F.has, fun a' ha' => ?_⟩
  refine wpAny_mono (count_calls_spec GG (hA.le (by omega)) Z₂.F.has hd a' ha') (fun v s₃ h₃ => ?_) fun _ _ q => q
  refine Classical.byContradiction fun hNo => ?_
  obtain ⟨st₃, R₃, g₃, S₃, t, rfl⟩ := h₃
  refine hNo ?_
  clear hNo
  have Z₃ := Z₂.call st₃ g₃ S₃
  refine wpAny_Constant_int (PySem.P.eq_int ?_)
  rw [h1]
  refine wpAny_truthy_bool ?_
  rw [if_pos (by decide)]
  refine BoolOp_one ?_
  have Z₄ := Z₃.tok (tk := s₃.toks + 1)
  have G₃ := GG.keeps g₃.sub
  refine wpAny_Compare1 ?_
  refine callF Z₄.F G₃.g (G₃.fns 3 (by simp)) rfl ?_
  refine args_cons (nmL Z₄.F hma ?_) rfl
  refine args_nil ⟨Z₄.F.has, fun a' ha' => ?_⟩
  refine wpAny_mono (count_calls_spec G₃ (hA.le (by omega)) Z₄.F.has (hda.keeps g₃.sub) a' ha') (fun v s₅ h₅ => ?_) fun _ _ q => q
  refine Classical.byContradiction fun hNo => ?_
  obtain ⟨st₅, R₅, g₅, S₅, t', rfl⟩ := h₅
  refine hNo ?_
  clear hNo
  have Z₅ := Z₄.call st₅ g₅ S₅
  refine sumPos (G₃.keeps g₅.sub) (hA.le (by omega)) (Sub.refl _) Z₅ hmt (hdt.keeps (g₃.sub.trans g₅.sub)) hnt rfl (by decide) rfl (by decide) (fun _ => rfl) rfl fun R₆ s₆ t₆ g₆ Z₆ => ?_
  refine PySem.P.eq_int ?_
  rw [h2]
  rw [beq_self_eq_true]
  exact h R₆ s₆ (((g₃.back Z₂.F.step.sub).trans (g₅.back Z₄.F.step.sub) (Sub.refl _)).trans g₆ (Sub.refl _)) Z₆
end
end Mine
end
section
open PySem PySem.W PySem.Calls PyProof.Rows
set_option maxRecDepth 100000
set_option linter.unusedVariables false
set_option linter.unusedSimpArgs false
namespace Mine

section
variable {prog : Program} {w : World} {A : Around} {s s₀ : Shared} {R₀ : Heap} {L a : Addr} {cd : Value} {m : Str → Option Value} {mg mb : Str → Option Value}

theorem law_form : (fn 21).body = [ls 0, ls 1, ls 2, ls 3, ls 4, ls 5, ls 6, ls 7, ls 8, ls 9, ls 10, ls 11, ls 12, ls 13, ls 14, ls 15, ls 16, ls 17, ls 18, ls 19, ls 20, ls 21] := rfl

theorem ahead_len (i n : Nat) : (drawnP i n).ahead.length ≤ 3 ∧ (drawnP i n).und ≤ 1 := by
  have h := (drT_drawn i n)
  refine ⟨?_, ?_⟩
  · rw [← h.ah]
    rcases h.kind with e | ⟨x, e, _⟩ | e | e <;> rw [e] <;> simp [txt, Tk.text]
  · rcases h.und with e | e <;> rw [e] <;> decide
theorem word_len {i : Nat} (hi : i < 4) (n : Nat) : (drawnP i n).word.length ≤ 2 := (words_good hi (j := n / 2 % 9) (Nat.mod_lt _ (by decide))).1
theorem part_len (i n : Nat) : (partP (drawnP i n)).length ≤ 5 := by
  have := (ahead_len i n).1
  unfold partP unitP
  rw [List.length_append]
  split <;> simp <;> omega

theorem letters_all (script : List Int) : ∀ d ∈ lettersP script, ∃ n, d = drawnP (familyP script) n := fun d hd => by
  obtain ⟨n, _, rfl⟩ := List.mem_map.mp hd; exact ⟨n, rfl⟩

set_option maxHeartbeats 4000000 in
theorem law_body (G : GE prog w mg mb R₀) (hA : AOk A 40) {script : List Int} {sv : Value} (hm : m "script" = some sv) (hsc : IsLst isI R₀ sv script) (hn : script.length ≤ 63) (Z : LF s₀ R₀ L m s none none) (hs0 : s₀ = s₀) :
    wpAny (model prog w) A (execs (fn 21).body (e21 L a cd)) (fun f s' => Ret s₀ R₀ (fun _ r => r = .bool true) (retV f) s') NoE s := by
  have PL := plainLaw script
  refine Classical.byContradiction fun hNo => ?_
  obtain ⟨fit1, fit2, fit3⟩ := text_fits script
  refine hNo ?_
  clear hNo
  have hi := fam_lt script
  have hle := PL.nums
  have hla := letters_all script
  have hln : (lettersP script).length = (numbersP script).length := by unfold lettersP; rw [List.length_map]
  have hh := hA.hh
  rw [law_form]
  -- drawn, numbers, total, family, left
  refine wpAny_execs_cons (st0 hh Z hm hsc hn fun R1 s1 v1 g1 Z1 h1 => ?_)
  refine wpAny_execs_cons (st1 G g1.sub Z1 rfl h1 (by rw [List.length_map, List.length_take]; omega) fun R2 s2 v2 g2 Z2 h2 => ?_)
  rw [nums_ints] at h2
  have h2N := lst_IN h2
  have k2 := g1.trans g2 (Sub.refl _)
  refine wpAny_execs_cons (st2 G hh k2.sub Z2 rfl h2 fun s3 t3 Z3 => ?_)
  rw [sum_ints] at Z3
  have e3 : (numbersP script).sum = totalP script := rfl
  rw [e3] at Z3
  have htot : totalP script ≤ 5000000 := by
    have h4 := sum_small (numbersP script) (nums_small script)
    have ep : (10 : Nat) ^ 6 = 1000000 := by decide
    rw [ep, e3] at h4
    have h5 : (numbersP script).length * 1000000 ≤ 5 * 1000000 := Nat.mul_le_mul_right 1000000 hle.2
    omega
  refine wpAny_execs_cons (st3 Z3 rfl fun s4 t4 Z4 => ?_)
  have e4 : ((totalP script : Nat) : Int).fmod 4 = ((familyP script : Nat) : Int) := fmodN (totalP script) 4 (by decide)
  rw [e4] at Z4
  refine wpAny_execs_cons (st4 Z4 (n := (totalP script : Int)) ⟨by omega, by omega⟩ rfl fun s5 Z5 => ?_)
  have e5 : ((((totalP script : Nat) : Int).fdiv 4).fmod 2 == 0) = leftP script := by
    have q1 : ((totalP script : Nat) : Int).fdiv 4 = ((totalP script / 4 : Nat) : Int) := fdivN (totalP script) 4 (by decide)
    have q2 : ((totalP script / 4 : Nat) : Int).fmod 2 = ((totalP script / 4 % 2 : Nat) : Int) := fmodN (totalP script / 4) 2 (by decide)
    rw [q1, q2]
    unfold leftP
    by_cases hz : totalP script / 4 % 2 = 0
    · rw [hz]; rfl
    · have h1 : ((totalP script / 4 % 2 : Nat) : Int) ≠ 0 := by omega
      rw [beq_eq_false_iff_ne.mpr h1, beq_eq_false_iff_ne.mpr hz]
  rw [e5] at Z5
  -- letters, parts
  refine wpAny_execs_cons (st5 G (hA.le (by omega)) k2.sub Z5 hi rfl rfl h2N hle.2 fun R6 s6 v6 g6 Z6 h6 => ?_)
  have e6 : (numbersP script).map (drawnP (familyP script)) = lettersP script := rfl
  rw [e6] at h6
  have k6 := k2.trans g6 (Sub.refl _)
  have hds : ∀ d ∈ lettersP script, d.ahead.length ≤ 3 ∧ d.und ≤ 1 := fun d hd => by obtain ⟨n, rfl⟩ := hla d hd; exact ahead_len _ n
  have hwl : ∀ d ∈ lettersP script, d.word.length ≤ 2 := fun d hd => by obtain ⟨n, rfl⟩ := hla d hd; exact word_len hi n
  have hpl : ∀ d ∈ lettersP script, (partP d).length ≤ 5 := fun d hd => by obtain ⟨n, rfl⟩ := hla d hd; exact part_len _ n
  refine wpAny_execs_cons (st6 G (hA.le (by omega)) k6.sub Z6 rfl h6 (by omega) hds fun R7 s7 v7 g7 Z7 h7 => ?_)
  have k7 := k6.trans g7 (Sub.refl _)
  -- the text
  obtain ⟨d0, d1, d2, rest, hsh⟩ : ∃ d0 d1 d2 rest, lettersP script = d0 :: d1 :: d2 :: rest := by
    have hl3 : 3 ≤ (lettersP script).length := by omega
    match hq : lettersP script with
    | d0 :: d1 :: d2 :: rest => exact ⟨d0, d1, d2, rest, rfl⟩
    | [] => rw [hq] at hl3; simp at hl3
    | [_] => rw [hq] at hl3; simp at hl3
    | [_, _] => rw [hq] at hl3; simp at hl3
  have hmem : d0 ∈ lettersP script ∧ d1 ∈ lettersP script ∧ d2 ∈ lettersP script := by rw [hsh]; simp
  have h7' : IsLst isS R7 v7 (partP d0 :: partP d1 :: partP d2 :: rest.map partP) := by rw [hsh] at h7; exact h7
  refine wpAny_execs_cons (st7 (left := leftP script) Z7 rfl rfl h7' (hpl d0 hmem.1) (hpl d1 hmem.2.1) (hpl d2 hmem.2.2) fun R8 s8 v8 t8 g8 Z8 h8 => ?_)
  have k8 := k7.trans g8 (Sub.refl _)
  have hcl : (coreP (leftP script) (partP d0) (partP d1) (partP d2)).length ≤ 20 := by
    have q0 := hpl d0 hmem.1
    have q1 := hpl d1 hmem.2.1
    have q2 := hpl d2 hmem.2.2
    unfold coreP
    split <;> simp <;> omega
  have h6' := h6.keeps monoDr (g7.sub.trans g8.sub)
  refine wpAny_execs_cons (st8 G (hA.le (by omega)) k8.sub Z8 rfl h6' (by omega) hds rfl (by omega) fun R9 s9 m9 t9 g9 Z9 ag9 ht9 => ?_)
  have k9 := k8.trans g9 (Sub.refl _)
  have htx : ((lettersP script).drop 3).foldl wrapP (coreP (leftP script) (partP d0) (partP d1) (partP d2)) = textP (leftP script) (lettersP script) := by rw [hsh]; rfl
  rw [htx] at ht9
  have htl : (textP (leftP script) (lettersP script)).length ≤ 100 := by
    rw [← htx]
    have q := wraps_len ((lettersP script).drop 3) (coreP (leftP script) (partP d0) (partP d1) (partP d2)) fun d hd => (hds d (List.mem_of_mem_drop hd)).1
    have q2 : ((lettersP script).drop 3).length ≤ 2 := by rw [List.length_drop]; omega
    omega
  refine Classical.byContradiction fun hNo => ?_
  obtain ⟨pc1, pc2, out, hI, ⟨hturn, hlet, hrl, hol⟩, pe1, pe2, pe3, pe4, pg, pl, ps1, ps2, pnd, pfew⟩ := PL.core
  refine hNo ?_
  clear hNo
  refine wpAny_execs_cons (st9 G (hA.le (by omega)) k9.sub Z9 ht9 (by omega) pc1 pc2 fun R10 s10 g10 Z10 => ?_)
  have k10 := k9.trans g10 (Sub.refl _)
  -- units, run
  refine wpAny_execs_cons (st10 G (hA.le (by omega)) k10.sub Z10 ht9 (by omega) (by omega) fun R11 s11 v11 g11 Z11 h11 => ?_)
  have k11 := k10.trans g11 (Sub.refl _)
  refine wpAny_execs_cons (st11 Z11 fun R12 s12 v12 g12 Z12 h12 => ?_)
  have k12 := k11.trans g12 (Sub.refl _)
  refine wpAny_execs_cons (st12 G (hA.le (by omega)) k12.sub hi Z12 (uv := v11) rfl (h11.keeps g12.sub) (by omega) fit3 hI hrl rfl h12 fun R13 s13 m13 v13 g13 Z13 ag13 hr13 h13 => ?_)
  have k13 := k12.trans g13 (Sub.refl _)
  -- initial
  refine wpAny_execs_cons (st13 G (hA.le (by omega)) k13.sub hi rfl Z13 fun R14 s14 t14 g14 Z14 => ?_)
  have k14 := k13.trans g14 (Sub.refl _)
  have ec2 : (some (Value.str ⟨(signP (familyP script) 0).2.toArray⟩ t14)) = some (Value.str ⟨#[(signP (familyP script) 0).1]⟩ t14) := by rw [first_word hi]
  rw [ec2] at Z14
  -- what the names are by now
  have old : ∀ y : Str, y ∉ [("item" : Str), "run"] → y ≠ "units" → y ∉ ns8 → m13 y = upd (upd (upd (upd (upd (upd (upd (upd m "drawn" v1) "numbers" v2) "total" (.int (totalP script : Nat) t3)) "left" (.bool (leftP script))) "letters" v6) "parts" v7) "text" (.str ⟨(coreP (leftP script) (partP d0) (partP d1) (partP d2)).toArray⟩ t8)) "weights" v8 y := fun y h1 h2 h3 => by
    have hrun : y ≠ "run" := fun e => h1 (by simp [e])
    rw [ag13 y h1]
    show (if y = "run" then some v12 else if y = "units" then some v11 else m9 y) = _
    rw [if_neg hrun, if_neg h2, ag9 y h3]
  have mlet : m13 "letters" = some v6 := (old _ (by decide) (by decide) (by decide)).trans rfl
  have mwei : m13 "weights" = some v8 := (old _ (by decide) (by decide) (by decide)).trans rfl
  have mlef : m13 "left" = some (.bool (leftP script)) := (old _ (by decide) (by decide) (by decide)).trans rfl
  have s6 := k14
  have sub6 : Sub R6 R14 := g7.sub.trans (g8.sub.trans (g9.sub.trans (g10.sub.trans (g11.sub.trans (g12.sub.trans (g13.sub.trans g14.sub))))))
  have sub8 : Sub R8 R14 := g9.sub.trans (g10.sub.trans (g11.sub.trans (g12.sub.trans (g13.sub.trans g14.sub))))
  have hlet14 := h6.keeps monoDr sub6
  refine wpAny_execs_cons (st14 (hA.le (by omega)) Z14 mlet hlet14 (by omega) fun R15 s15 v15 g15 Z15 h15 => ?_)
  have k15 := k14.trans g15 (Sub.refl _)
  have hw15 : IsLst isN R15 v8 (weightsP (leftP script)) := h8.keeps monoN (sub8.trans g15.sub)
  have hwn : (weightsP (leftP script)).length ≤ 100 ∧ ∀ n ∈ weightsP (leftP script), n ≤ 4 := by cases leftP script <;> simp [weightsP]
  have how : ∀ o ∈ (lettersP script).map Dr.word, o.length ≤ 4 := fun o ho => by
    refine Classical.byContradiction fun hNo => ?_
    obtain ⟨d, hd, rfl⟩ := List.mem_map.mp ho
    refine hNo ?_
    clear hNo
    have := hwl d hd; omega
  refine wpAny_execs_cons (st15 G (hA.le (by omega)) k15.sub Z15 (wv := v8) (by exact mwei) hw15 rfl h15 hwn.1 hwn.2 how fun R16 s16 t16 g16 Z16 => ?_)
  rw [zip_size] at Z16
  have k16 := k15.trans g16 (Sub.refl _)
  refine wpAny_execs_cons (st16 G (hA.le (by omega)) k16.sub rfl Z16 (wv := v8) (ov := v15) (by exact mwei) (hw15.keeps monoN g16.sub) rfl (h15.keeps monoS g16.sub) hwn.1 hwn.2 how fun R17 s17 t17 g17 Z17 => ?_)
  rw [zip_own] at Z17
  have k17 := k16.trans g17 (Sub.refl _)
  -- entry
  have hrun17 : IsRun R17 v13 out.flatten := IsLst.keeps monoLT h13 (g14.sub.trans (g15.sub.trans (g16.sub.trans g17.sub)))
  refine wpAny_execs_cons (st17 G (hA.le (by omega)) k17.sub rfl Z17 (rv := v13) (by exact hr13) hrun17 hturn hlet fun R18 s18 v18 g18 Z18 h18 => ?_)
  have k18 := k17.trans g18 (Sub.refl _)
  refine Classical.byContradiction fun hNo => ?_
  obtain ⟨T, u1, u2, u3, u4, dd, rfl, hT, hrows⟩ := h18
  refine hNo ?_
  clear hNo
  refine wpAny_execs_cons (st18 G (hA.le (by omega)) k18.sub Z18 rfl hT hrows pfew fun R19 s19 B19 g19 Z19 h19 => ?_)
  have k19 := k18.trans g19 (Sub.refl _)
  have hnz : (nonZero (entryP (signP (familyP script) 0).1 out.flatten).rows).length ≤ 1000 := by
    refine Nat.le_trans ?_ pfew
    have := compFold_len (fun p => decide (p.2 ≠ 0)) (fun k => k) (fun p => p.2) (entryP (signP (familyP script) 0).1 out.flatten).rows []
    simpa [nonZero] using this
  refine wpAny_execs_cons (st19 G (hA.le (by omega)) k19.sub Z19 rfl h19 hnz fun R20 s20 B20 g20 Z20 h20 => ?_)
  have k20 := k19.trans g20 (Sub.refl _)
  have h3 : (lettersP script).take 3 = [d0, d1, d2] := by rw [hsh]; rfl
  have hu3 : ∀ d ∈ [d0, d1, d2], d.und ≤ 1 ∧ d.word.length ≤ 4 := fun d hd => by
    have hd' : d ∈ lettersP script := List.mem_of_mem_take (h3 ▸ hd)
    exact ⟨(hds d hd').2, by have := hwl d hd'; omega⟩
  have hlet20 := hlet14.keeps monoDr (g15.sub.trans (g16.sub.trans (g17.sub.trans (g18.sub.trans (g19.sub.trans g20.sub)))))
  refine wpAny_execs_cons (st20 G (hA.le (by omega)) k20.sub Z20 (v := v6) (left := leftP script) (by exact mlet) hlet20 (by omega) h3 hu3 (by exact mlef) fun R21 s21 B21 g21 Z21 h21 => ?_)
  have k21 := k20.trans g21 (Sub.refl _)
  have etold : toldP (leftP script) ((lettersP script).getD 0 ⟨[], 0, [], 0⟩) ((lettersP script).getD 1 ⟨[], 0, [], 0⟩) ((lettersP script).getD 2 ⟨[], 0, [], 0⟩) = toldP (leftP script) d0 d1 d2 := by rw [hsh]; rfl
  rw [etold] at pg pl ps2
  have hsz := size_small (leftP script) (lettersP script) hwl (signP (familyP script) 0).1
  have sub18 : Sub R18 R21 := g19.sub.trans (g20.sub.trans g21.sub)
  refine wpAny_execs_cons (st21 G (hA.le (by omega)) k21.sub Z21 (e := entryP (signP (familyP script) 0).1 out.flatten) rfl (isTuple_keeps hT sub18) (hrows.keeps sub18) rfl (h19.keeps (g20.sub.trans g21.sub)) rfl (h20.keeps g21.sub) rfl h21 (by rw [← pl]; exact hnz) rfl rfl hsz pe1 pe2 pe3 pe4 pl (fun p hp => by rw [← pg]; exact (getI_mem pnd p).mp hp) ps1 ps2 fun R22 s22 g22 Z22 => ?_)
  exact Z22.F.drop (Y := []) (by simp) |>.ret R₀ (k21.trans g22 (Sub.refl _)) rfl
end
end Mine
end
section
open PySem PySem.W PySem.Calls PyProof.Rows
set_option maxRecDepth 100000
set_option linter.unusedVariables false
set_option linter.unusedSimpArgs false
namespace Mine

/-! ## a long display of a dict -/
noncomputable def RP : List (Int × Value) → List (Int × Str) → Prop := All2 fun kv p => kv.1 = p.1 ∧ ∃ t, kv.2 = .str p.2 t
theorem RP.keys : ∀ {kvs : List (Int × Value)} {ps : List (Int × Str)}, RP kvs ps → kvs.map (·.1) = ps.map (·.1)
  | [], [], _ => rfl
  | kv :: kvs, p :: ps, h => by rw [List.map_cons, List.map_cons, h.1.1, RP.keys h.2]
  | [], _ :: _, h => h.elim
  | _ :: _, [], h => h.elim
theorem RP.append {a c : List (Int × Value)} {b d : List (Int × Str)} (x : RP a b) (y : RP c d) : RP (a ++ c) (b ++ d) := All2.append x y

section
variable {prog : Program} {w : World} {A : Around} {E : Value → Shared → Prop} {s : Shared}

/-- a key that is new -/
theorem put_fresh {d : Addr} {kvs : List (Int × Value)} {k : Int} {key v : Value} {Q : Unit → Shared → Prop} (hkey : (intKind prog w).is k key = true) (hm : s.heap.DictOf (intKind prog w) d kvs) (hn : k ∉ kvs.map (·.1)) (hsz : kvs.length ≤ 10000)
    (hQ : ∀ h', h'.DictOf (intKind prog w) d (kvs ++ [(k, v)]) → Heap.SameBut d s.heap h' → Q () { s with heap := h' }) :
    wpAny (model prog w) A (dictPut d ((intKind prog w).hash k) key v) Q E s := by
  refine Classical.byContradiction fun hNo => ?_
  obtain ⟨o, es, ep, ho, hc, hd, hk, hp, hnd⟩ := hm
  refine hNo ?_
  clear hNo
  have hlen := hp.length
  rw [Array.length_toList] at hlen
  have hnone : (es.findIdx? fun e => (intKind prog w).is k e.key) = none := by
    have e1 := hp.findIdx k
    have e2 : (kvs.findIdx? fun kv => decide (kv.1 = k)) = none := List.findIdx?_eq_none_iff.mpr fun x hx => decide_eq_false fun e => hn (List.mem_map.mpr ⟨x, hx, e⟩)
    rw [e2] at e1
    obtain ⟨l⟩ := es
    simpa using e1
  unfold dictPut
  refine wpAny_bind (wpAny_dictFind_of hkey ho hd hk ?_)
  rw [hnone]
  refine wpAny_updateDictKeys (hz := by rw [sizeLine_eq]; omega) ho hd (hQ _ ⟨_, _, ep + 1, Heap.get?_update_self _ ho (Obj.isFreed_of_dict (Obj.data_mapDictKeys hd _)), hc.mapDictKeys _, Obj.data_mapDictKeys hd _, hk.push hkey _, ?_, ?_⟩ (Heap.SameBut.update ..))
  · obtain ⟨l⟩ := es
    simpa using hp.append hkey ((intKind prog w).hash k) v
  · rw [List.map_append, List.nodup_append]
    exact ⟨hnd, by simp, fun x hx y hy e => hn (by simp only [List.map_cons, List.map_nil, List.mem_singleton] at hy; rw [← hy, ← e]; exact hx)⟩

theorem pairs_at : ∀ {es : List DictEntry} {kvs : List (Int × Value)}, Pairs (intKind prog w) es kvs → ∀ (i : Nat) (h : i < kvs.length) (h' : i < es.length), (intKind prog w).is (kvs[i]).1 (es[i]).key = true ∧ (es[i]).val = (kvs[i]).2
  | _, _, .nil, i, h, _ => absurd h (Nat.not_lt_zero _)
  | _, _, .cons h1 h2 _, 0, _, _ => ⟨h1, h2⟩
  | _, _, .cons _ _ r, i + 1, h, h' => pairs_at r i (Nat.lt_of_succ_lt_succ h) (Nat.lt_of_succ_lt_succ h')
theorem merge_ok {d a : Addr} {kvs more : List (Int × Value)} {Q : Unit → Shared → Prop} (hda : d ≠ a) (hS : (a == sysModules) = false) (hd : s.heap.DictOf (intKind prog w) d kvs) (ha : s.heap.DictOf (intKind prog w) a more) (h0 : kvs ≠ [])
    (hn : ((kvs ++ more).map (·.1)).Nodup) (hsz : kvs.length + more.length ≤ 9000)
    (hQ : ∀ h', h'.DictOf (intKind prog w) d (kvs ++ more) → Heap.SameBut d s.heap h' → Q () { s with heap := h' }) :
    wpAny (model prog w) A (mergeMapping d (.ref a) false) Q E s := by
  have ha' := ha
  refine Classical.byContradiction fun hNo => ?_
  obtain ⟨oa, ea, epa, hoa, hca, hda', hka, hpa, hna⟩ := ha
  refine hNo ?_
  clear hNo
  have hd0 := hd
  refine Classical.byContradiction fun hNo => ?_
  obtain ⟨od, ed, epd, hod, hcd, hdd, hkd, hpd, hnd⟩ := hd
  refine hNo ?_
  clear hNo
  have hlen := hpa.length
  rw [Array.length_toList] at hlen
  unfold mergeMapping
  refine wpAny_bind (wpAny_isInstance (b := true) ha'.typeIs PySem.F.sub_dict_dict ?_)
  dsimp only
  rw [if_pos rfl]
  refine wpAny_bind (wpAny_specialOf ha'.typeIs PySem.F.slot_dict_iter.lookup (wpAny_bind (wpAny_pure ?_)))
  have e0 : (some (Value.builtin "dict.__iter__") == some (Value.builtin "dict.__iter__")) = true := by simp
  rw [e0]
  dsimp only
  rw [if_neg (by rw [hS]; decide)]
  refine wpAny_bind (wpAny_dictEntries hod hdd ?_)
  have hne : ¬ (ed.isEmpty = true) := by
    intro he
    have := hpd.length
    rw [Array.isEmpty_iff] at he
    rw [he] at this
    cases kvs with
    | nil => exact h0 rfl
    | cons _ _ => simp at this
  rw [if_neg hne]
  refine wpAny_bind (wpAny_dictEntries hoa hda' ?_)
  refine wpAny_bind (wpAny_dictEpoch hoa hda' ?_)
  refine wpAny_bind ?_
  refine wpAny_forIn_list _ (fun l _ s' => ∃ i h', l = (List.range ea.size).drop i ∧ i ≤ ea.size ∧ s' = { s with heap := h' } ∧ h'.DictOf (intKind prog w) d (kvs ++ more.take i) ∧ Heap.SameBut d s.heap h') _ ?_ ?_ _ _
    ⟨0, s.heap, rfl, Nat.zero_le _, rfl, by simpa using hd0, Heap.SameBut.refl _ _⟩
  · intro x rest b s' hJo
    refine Classical.byContradiction fun hNo => ?_
    obtain ⟨i, h', hl, hi, rfl, hD, hsb⟩ := hJo
    refine hNo ?_
    clear hNo
    have hix : i < ea.size := by
      rcases Nat.lt_or_ge i ea.size with h | h
      · exact h
      · rw [List.drop_eq_nil_of_le (by simpa using h)] at hl; cases hl
    have hl2 := List.drop_eq_getElem_cons (l := List.range ea.size) (i := i) (by simpa using hix)
    rw [hl2] at hl
    obtain ⟨hx, hrest⟩ := List.cons.inj hl
    have hx : x = i := by rw [hx]; simp
    subst hx
    have hoa2 : h'.get? a = some oa := (hsb.2 a (Ne.symm hda)).trans hoa
    refine wpAny_bind (wpAny_dictEntries (s := { s with heap := h' }) hoa2 hda' ?_)
    have hget : ea[x]? = some ea[x] := Array.getElem?_eq_getElem hix
    rw [hget]
    dsimp only
    have hxm : x < more.length := by omega
    refine Classical.byContradiction fun hNo => ?_
    obtain ⟨k, hk1, hk2⟩ := hka ea[x] (Array.getElem_mem hix)
    refine hNo ?_
    clear hNo
    have hkv : (intKind prog w).is (more[x]).1 ea[x].key = true ∧ ea[x].val = (more[x]).2 := pairs_at hpa x hxm (by simpa using hix)
    have hkk : k = (more[x]).1 := (intKind prog w).inj _ _ _ hk1 hkv.1
    refine wpAny_bind (wpAny_holding ?_)
    rw [if_neg (by decide), hk2, hkk]
    have hfresh : (more[x]).1 ∉ (kvs ++ more.take x).map (·.1) := by
      have hnd2 : ((kvs ++ more.take x ++ more.drop x).map (·.1)).Nodup := by rw [List.append_assoc, List.take_append_drop]; exact hn
      rw [List.map_append, List.nodup_append] at hnd2
      intro hm
      refine hnd2.2.2 _ hm (more[x]).1 ?_ rfl
      exact List.mem_map.mpr ⟨more[x], by rw [List.drop_eq_getElem_cons hxm]; exact List.mem_cons_self, rfl⟩
    refine put_fresh hkv.1 hD hfresh (by rw [List.length_append, List.length_take]; omega) fun h'' hD2 hsb2 => ?_
    have hoa3 : h''.get? a = some oa := (hsb2.2 a (Ne.symm hda)).trans hoa2
    refine wpAny_bind (wpAny_dictEpoch (s := { s with heap := h'' }) hoa3 hda' ?_)
    rw [if_neg (by simp)]
    refine wpAny_pure ⟨x + 1, h'', hrest, hix, rfl, ?_, hsb.trans hsb2⟩
    have e : more.take (x + 1) = more.take x ++ [((more[x]).1, ea[x].val)] := by
      rw [List.take_add_one, List.getElem?_eq_getElem hxm, hkv.2]; rfl
    rw [e, ← List.append_assoc]
    exact hD2
  · intro b s' hJo
    refine Classical.byContradiction fun hNo => ?_
    obtain ⟨i, h', hl, hi, rfl, hD, hsb⟩ := hJo
    refine hNo ?_
    clear hNo
    have hi2 : i = ea.size := by
      rcases Nat.lt_or_ge i ea.size with h | h
      · rw [List.drop_eq_getElem_cons (l := List.range ea.size) (i := i) (by simpa using h)] at hl; cases hl
      · omega
    subst hi2
    rw [hlen, List.take_length] at hD
    exact wpAny_pure (hQ h' hD hsb)
end
end Mine
end
section
open PySem PySem.W PySem.Calls PyProof.Rows
set_option maxRecDepth 100000
set_option linter.unusedVariables false
set_option linter.unusedSimpArgs false
namespace Mine

noncomputable abbrev SV := Sem Value × Sem Value
section
variable {prog : Program} {w : World} {A : Around} {s : Shared}

/-- a key's tree and a value's -/
noncomputable def TreeP (prog : Program) (w : World) (A : Around) (T : SV) (p : Int × Str) : Prop :=
  (∀ (E : Value → Shared → Prop) (s : Shared) (Q : Value → Shared → Prop), (∀ t tk, Q (.int p.1 t) { s with toks := tk }) → wpAny (model prog w) A T.1 Q E s) ∧
  (∀ (E : Value → Shared → Prop) (s : Shared) (Q : Value → Shared → Prop), (∀ t tk, Q (.str p.2 t) { s with toks := tk }) → wpAny (model prog w) A T.2 Q E s)
noncomputable abbrev TreesP (prog : Program) (w : World) (A : Around) : List SV → List (Int × Str) → Prop := All2 (TreeP prog w A)

theorem intKey (k : Int) (t : Tok) : (intKind prog w).is k (.int k t) = true := by simp [intKind, Value.isInt]

theorem evalPairs_ok {E : Value → Shared → Prop} : ∀ {Ts : List SV} {ps : List (Int × Str)} {s : Shared} {Q : List (Value × Value) → Shared → Prop}, TreesP prog w A Ts ps →
    (∀ vs kvs tk, Carries (intKind prog w) vs kvs → RP kvs ps → Q vs { s with toks := tk }) → wpAny (model prog w) A (evalPairs Ts) Q E s
  | [], [], s, Q, _, h => evalPairs_nil (h [] [] s.toks trivial trivial)
  | T :: Ts, p :: ps, s, Q, hT, h => by
    obtain ⟨k, v⟩ := T
    refine evalPairs_cons (hT.1.1 E _ _ fun t tk => hT.1.2 E _ _ fun t' tk' => evalPairs_ok hT.2 fun vs kvs tk'' hc hr => ?_)
    exact h _ ((p.1, .str p.2 t') :: kvs) tk'' ⟨intKey p.1 t, rfl, hc⟩ ⟨⟨rfl, t', rfl⟩, hr⟩
  | [], _ :: _, _, _, h, _ => h.elim
  | _ :: _, [], _, _, h, _ => h.elim

theorem sub_ok {E : Value → Shared → Prop} {Ts : List SV} {ps : List (Int × Str)} {Q : Addr → Shared → Prop} (hT : TreesP prog w A Ts ps) (hn : (ps.map (·.1)).Nodup) (hl : ps.length ≤ 1000)
    (h : ∀ h' kvs tk, h'.DictOf (intKind prog w) s.heap.objs.size kvs → RP kvs ps → (∀ b o, s.heap.get? b = some o → h'.get? b = some o) → Q s.heap.objs.size { s with heap := h', toks := tk }) :
    wpAny (model prog w) A (subDict Ts) Q E s := by
  have hlen := All2.length hT
  have pushed : ∀ {h' : Heap}, Heap.SameBut s.heap.objs.size (s.heap.push { cls := .type "dict", data := .dict #[] }) h' → ∀ b o, s.heap.get? b = some o → h'.get? b = some o := fun hs b o e =>
    (hs.2 b (Nat.ne_of_lt (Heap.lt_size e))).trans (Heap.get?_push_of_some _ e)
  by_cases hle : Ts.length ≤ 15
  · refine wpAny_subDict (knd := intKind prog w) hle (evalPairs_ok hT fun vs kvs tk hc hr => ⟨kvs, hc, Heap.DictOf.new _, fun h' hm hs => ?_⟩)
    have hk : (kvs.map (·.1)).Nodup := by rw [hr.keys]; exact hn
    rw [merged_nil_of_nodup _ hk] at hm
    exact h h' kvs _ hm hr (pushed hs)
  · unfold subDict
    refine wpAny_bind (wpAny_alloc ?_)
    refine wpAny_bind (wpAny_holding ?_)
    rw [if_neg hle]
    refine wpAny_bind (wpAny_rule ?_)
    refine wpAny_bind ?_
    refine wpAny_forIn_list _ (fun l _ s' => ∃ i h' kvs tk, l = Ts.drop i ∧ i ≤ Ts.length ∧ s' = { s with heap := h', toks := tk } ∧ h'.DictOf (intKind prog w) s.heap.objs.size kvs ∧ RP kvs (ps.take i) ∧ Heap.SameBut s.heap.objs.size (s.heap.push { cls := .type "dict", data := .dict #[] }) h') _ ?_ ?_ _ _
      ⟨0, _, [], s.toks, rfl, Nat.zero_le _, rfl, Heap.DictOf.new _, trivial, Heap.SameBut.refl _ _⟩
    · rintro ⟨k, v⟩ rest b s' ⟨i, h', kvs, tk, hl', hi, rfl, hD, hr, hs⟩
      have hix : i < Ts.length := by
        rcases Nat.lt_or_ge i Ts.length with h | h
        · exact h
        · rw [List.drop_eq_nil_of_le h] at hl'; cases hl'
      rw [List.drop_eq_getElem_cons hix] at hl'
      refine Classical.byContradiction fun hNo => ?_
      obtain ⟨hx, hrest⟩ := List.cons.inj hl'
      obtain ⟨p, hp, hTp⟩ := All2.get hT (List.getElem?_eq_getElem hix)
      refine hNo ?_
      clear hNo
      rw [← hx] at hTp
      refine wpAny_bind (hTp.1 E _ _ fun t tk1 => ?_)
      refine wpAny_bind (wpAny_holding (hTp.2 E _ _ fun t' tk2 => ?_))
      refine wpAny_bind (wpAny_holding ?_)
      have hkl : kvs.length ≤ 1000 := by
        have := All2.length hr
        rw [List.length_take] at this; omega
      refine wpAny_dictSet_pairs (s := { s with heap := h', toks := tk2 }) (hsz := by rw [sizeLine_eq]; omega) (intKey p.1 t) hD fun h'' hD2 hs2 => ?_
      have hips : i < ps.length := by omega
      have hpe : ps[i] = p := by rw [List.getElem?_eq_getElem hips] at hp; exact Option.some.inj hp
      have hfresh : p.1 ∉ kvs.map (·.1) := by
        rw [hr.keys]
        have hn2 : ((ps.take i ++ ps.drop i).map (·.1)).Nodup := by rw [List.take_append_drop]; exact hn
        rw [List.map_append, List.nodup_append] at hn2
        intro hm
        refine hn2.2.2 _ hm p.1 ?_ rfl
        exact List.mem_map.mpr ⟨p, by rw [List.drop_eq_getElem_cons hips, hpe]; exact List.mem_cons_self, rfl⟩
      have hst : stored kvs p.1 (Value.str p.2 t') = kvs ++ [(p.1, .str p.2 t')] := by
        unfold stored
        rw [if_neg]
        rw [List.any_eq_true]
        rintro ⟨x, hx, e⟩
        exact hfresh (List.mem_map.mpr ⟨x, hx, of_decide_eq_true e⟩)
      rw [hst] at hD2
      refine wpAny_pure ⟨i + 1, h'', kvs ++ [(p.1, .str p.2 t')], _, hrest, hix, rfl, hD2, ?_, hs.trans hs2⟩
      have e : ps.take (i + 1) = ps.take i ++ [p] := by rw [List.take_add_one, hp]; rfl
      rw [e]
      exact hr.append ⟨⟨rfl, t', rfl⟩, trivial⟩
    · intro b s' hJo
      refine Classical.byContradiction fun hNo => ?_
      obtain ⟨i, h', kvs, tk, hl', hi, rfl, hD, hr, hs⟩ := hJo
      refine hNo ?_
      clear hNo
      have hi2 : i = Ts.length := by
        rcases Nat.lt_or_ge i Ts.length with h | h
        · rw [List.drop_eq_getElem_cons h] at hl'; cases hl'
        · omega
      subst hi2
      rw [hlen, List.take_length] at hr
      exact wpAny_pure (wpAny_pure (h h' kvs tk hD hr (pushed hs)))
end
end Mine
end
section
open PySem PySem.W PySem.Calls PyProof.Rows
set_option maxRecDepth 100000
set_option linter.unusedVariables false
set_option linter.unusedSimpArgs false
namespace Mine

section
variable {prog : Program} {w : World} {A : Around} {s : Shared}

/-- what stands in the display's dict so far -/
noncomputable def Main (prog : Program) (w : World) (s : Shared) (dps : List (Int × Str)) (main : Option Addr) (s' : Shared) : Prop :=
  (dps = [] ∧ main = none ∧ ∃ tk, s' = { s with toks := tk }) ∨
  (dps ≠ [] ∧ main = some s.heap.objs.size ∧ ∃ h' kvs tk, s' = { s with heap := h', toks := tk } ∧ h'.DictOf (intKind prog w) s.heap.objs.size kvs ∧ RP kvs dps ∧ ∀ b o, s.heap.get? b = some o → h'.get? b = some o)

theorem flush_ok {E : Value → Shared → Prop} (hS : sysModules < s.heap.objs.size) {dps ps : List (Int × Str)} {Ts : List SV} {main : Option Addr} {s' : Shared} {Q : Option Addr → Shared → Prop} (M : Main prog w s dps main s') (hT : TreesP prog w A Ts ps)
    (hn : ((dps ++ ps).map (·.1)).Nodup) (hl : (dps ++ ps).length ≤ 8000) (hl2 : ps.length ≤ 1000) (h : ∀ main' s'', Main prog w s (dps ++ ps) main' s'' → Q main' s'') :
    wpAny (model prog w) A (if Ts.isEmpty = true then pure main else match (generalizing := false) main with
      | none => (do let d ← subDict Ts; pure (some d))
      | some d => (do let sub ← holding [.ref d] (subDict Ts); (holding [.ref d, .ref sub] (mergeMapping d (.ref sub) false)).onRaise (fun x => do let _ ← holding [.ref d, x] (runValue (.builtin "proto.let_go" {})); pure ()); pure (some d))) Q E s' := by
  cases Ts with
  | nil =>
    rw [if_pos (show ([] : List SV).isEmpty = true from rfl)]
    cases ps with
    | nil => rw [List.append_nil] at h; exact wpAny_pure (h _ _ M)
    | cons _ _ => exact hT.elim
  | cons T Ts =>
    rw [if_neg (by simp)]
    have hps : ps ≠ [] := by rintro rfl; exact hT.elim
    have hnp : (ps.map (·.1)).Nodup := by rw [List.map_append, List.nodup_append] at hn; exact hn.2.1
    rcases M with ⟨rfl, rfl, tk, rfl⟩ | ⟨hd, rfl, h', kvs, tk, rfl, hD, hr, hk⟩
    · dsimp only
      refine wpAny_bind (sub_ok (s := { s with toks := tk }) hT hnp (by omega) fun h' kvs tk' hD hr hk => wpAny_pure (h _ _ (.inr ⟨by simpa using hps, rfl, h', kvs, tk', rfl, hD, hr, hk⟩)))
    · dsimp only
      refine wpAny_bind (wpAny_holding (sub_ok (s := { s with heap := h', toks := tk }) hT hnp (by omega) fun h₂ more tk₂ hD₂ hr₂ hk₂ => ?_))
      have hlt : s.heap.objs.size < h'.objs.size := by obtain ⟨o, _, _, ho, _⟩ := hD; exact Heap.lt_size ho
      have hD₃ : h₂.DictOf (intKind prog w) s.heap.objs.size kvs := let ⟨o, es, ep, ho, r⟩ := hD; ⟨o, es, ep, hk₂ _ _ ho, r⟩
      have hne : kvs ≠ [] := by rintro rfl; cases dps with
        | nil => exact hd rfl
        | cons _ _ => exact hr.elim
      have hl3 : kvs.length = dps.length := All2.length hr
      have hl4 : more.length = ps.length := All2.length hr₂
      rw [List.length_append] at hl
      refine wpAny_bind (wpAny_onRaise (wpAny_holding (merge_ok (s := { s with heap := h₂, toks := tk₂ }) (Nat.ne_of_lt hlt) (beq_eq_false_iff_ne.mpr (Nat.ne_of_gt (Nat.lt_trans hS hlt))) hD₃ hD₂ hne (by rw [List.map_append, hr.keys, hr₂.keys, ← List.map_append]; exact hn) (by omega) fun h₄ hD₄ hs₄ => ?_)))
      exact wpAny_pure (h _ _ (.inr ⟨by simp [hps], rfl, h₄, kvs ++ more, tk₂, rfl, hD₄, hr.append hr₂, fun b o e => (hs₄.2 b (Nat.ne_of_lt (Heap.lt_size e))).trans (hk₂ _ _ (hk _ _ e))⟩))

theorem display_ok {E : Value → Shared → Prop} (hS : sysModules < s.heap.objs.size) {ps : List (Int × Str)} {Ts : List SV} {Q : Value → Shared → Prop} (hT : TreesP prog w A Ts ps) (h0 : ps ≠ []) (hn : (ps.map (·.1)).Nodup) (hl : ps.length ≤ 8000)
    (h : ∀ h' kvs tk, h'.DictOf (intKind prog w) s.heap.objs.size kvs → RP kvs ps → (∀ b o, s.heap.get? b = some o → h'.get? b = some o) → Q (.ref s.heap.objs.size) { s with heap := h', toks := tk }) :
    wpAny (model prog w) A (dictDisplay (Ts.map fun p => (some p.1, p.2))) Q E s := by
  unfold dictDisplay
  dsimp only
  refine wpAny_bind ?_
  refine wpAny_forIn_list _ (fun l (b : Option Addr × List SV) s' => ∃ dT pT dps pps rest rps, l = rest.map (fun p : SV => (some p.1, p.2)) ∧ b.2 = pT ∧ pT.length < 17 ∧ TreesP prog w A pT pps ∧ TreesP prog w A rest rps ∧ ps = dps ++ pps ++ rps ∧ Ts = dT ++ pT ++ rest ∧ Main prog w s dps b.1 s') _ ?_ ?_ _ _
    ⟨[], [], [], [], Ts, ps, rfl, rfl, by decide, trivial, hT, rfl, rfl, .inl ⟨rfl, rfl, s.toks, rfl⟩⟩
  · rintro x rest0 ⟨main, run⟩ s' ⟨dT, pT, dps, pps, rest, rps, hl0, hb, hp17, hTp, hTr, hps, hTs, M⟩
    dsimp only at hb M ⊢
    subst hb
    cases rest with
    | nil => cases hl0
    | cons T rest =>
      obtain ⟨hx, hr⟩ := List.cons.inj hl0
      subst hx hr
      dsimp only
      cases rps with
      | nil => exact hTr.elim
      | cons p rps =>
        have hTp2 : TreesP prog w A (run ++ [(T.1, T.2)]) (pps ++ [p]) := All2.append hTp ⟨hTr.1, trivial⟩
        have hlp : pps.length = run.length := (All2.length hTp).symm
        have hps2 : ps = dps ++ (pps ++ [p]) ++ rps := by rw [hps]; simp
        by_cases h17 : ((run ++ [(T.1, T.2)]).length == 17) = true
        · rw [if_pos h17]
          refine wpAny_bind (flush_ok hS M hTp2 ?_ ?_ (by simp; omega) fun main' s'' M' => wpAny_pure ?_)
          · rw [hps2, List.map_append, List.nodup_append] at hn; exact hn.1
          · rw [hps2, List.length_append] at hl; omega
          · exact ⟨dT ++ (run ++ [(T.1, T.2)]), [], dps ++ (pps ++ [p]), [], rest, rps, rfl, rfl, by decide, trivial, hTr.2, by rw [hps2]; simp, by rw [hTs]; simp, M'⟩
        · rw [if_neg h17]
          refine wpAny_pure ⟨dT, _, dps, pps ++ [p], rest, rps, rfl, rfl, ?_, hTp2, hTr.2, by rw [hps2], by rw [hTs]; simp, M⟩
          have : (run ++ [(T.1, T.2)]).length ≠ 17 := by simpa using h17
          rw [List.length_append, List.length_singleton] at this ⊢
          omega
  · rintro ⟨main, run⟩ s' ⟨dT, pT, dps, pps, rest, rps, hl0, hb, hp17, hTp, hTr, hps, hTs, M⟩
    dsimp only at hb M ⊢
    subst hb
    cases rest with
    | cons _ _ => cases hl0
    | nil =>
      cases rps with
      | cons _ _ => exact hTr.elim
      | nil =>
        rw [List.append_nil] at hps
        have hlp : pps.length = run.length := (All2.length hTp).symm
        refine wpAny_bind (flush_ok hS M hTp (by rw [← hps]; exact hn) (by rw [← hps]; exact hl) (by omega) fun main' s'' M' => ?_)
        rw [← hps] at M'
        rcases M' with ⟨h', _⟩ | ⟨_, rfl, h', kvs, tk, rfl, hD, hr, hk⟩
        · exact absurd h' h0
        · exact wpAny_pure (h h' kvs tk hD hr hk)

/-- the pairs that a display of constants says -/
noncomputable def litK : Option Expr → Option Int
  | some (.Constant (.int k) _ _) => some k
  | _ => none
noncomputable def litV : Expr → Option Str
  | .Constant (.str x) _ _ => some x
  | _ => none
noncomputable def lits : List (Option Expr) → List Expr → Option (List (Int × Str))
  | [], [] => some []
  | k :: ks, v :: vs => (litK k).bind fun i => (litV v).bind fun x => (lits ks vs).map ((i, x) :: ·)
  | [], _ :: _ => none
  | _ :: _, [] => none
theorem litK_some {i : Int} : ∀ {k : Option Expr}, litK k = some i → ∃ n p, k = some (.Constant (.int i) n p)
  | none, h => nomatch h
  | some e, h => by
    cases e with
    | Constant c n p =>
      cases c with
      | int j =>
        have h2 : some j = some i := h
        injection h2 with h3
        exact ⟨n, p, by rw [h3]⟩
      | _ => exact nomatch (show (none : Option Int) = some i from h)
    | _ => exact nomatch (show (none : Option Int) = some i from h)
theorem litV_some {x : Str} : ∀ {v : Expr}, litV v = some x → ∃ n p, v = .Constant (.str x) n p := by
  intro e h
  cases e with
  | Constant c n p =>
    cases c with
    | str j =>
      have h2 : some j = some x := h
      injection h2 with h3
      exact ⟨n, p, by rw [h3]⟩
    | _ => exact nomatch (show (none : Option Str) = some x from h)
  | _ => exact nomatch (show (none : Option Str) = some x from h)
theorem lits_trees {env : Env} {pos : Pos} : ∀ (ks : List (Option Expr)) (vs : List Expr) {ps : List (Int × Str)}, lits ks vs = some ps → ks.all (·.isSome) = true ∧ ks.length = vs.length ∧ TreesP prog w A (pairTrees ks vs env pos) ps
  | [], [], ps, h => by
    have h2 : some [] = some ps := h
    injection h2 with h3
    subst h3
    exact ⟨rfl, rfl, trivial⟩
  | k :: ks, v :: vs, ps, h => by
    have h2 : ((litK k).bind fun i => (litV v).bind fun x => (lits ks vs).map ((i, x) :: ·)) = some ps := h
    refine Classical.byContradiction fun hNo => ?_
    obtain ⟨i, e1, h3⟩ := Option.bind_eq_some_iff.mp h2
    obtain ⟨x, e2, h4⟩ := Option.bind_eq_some_iff.mp h3
    obtain ⟨ps', hp, rfl⟩ := Option.map_eq_some_iff.mp h4
    obtain ⟨n1, p1, rfl⟩ := litK_some e1
    obtain ⟨n2, p2, rfl⟩ := litV_some e2
    obtain ⟨h5, h6, h7⟩ := lits_trees (env := env) (pos := pos) ks vs hp
    refine hNo ?_
    clear hNo
    refine ⟨h5, congrArg (· + 1) h6, ⟨fun E s Q hQ => ?_, fun E s Q hQ => ?_⟩, h7⟩
    · show wpAny _ _ (eval (.Constant (.int i) n1 p1) env) _ _ _
      exact wpAny_Constant_int (hQ _ _)
    · show wpAny _ _ (do let x ← eval (.Constant (.str x) n2 p2) env; standAt pos; pure x) _ _ _
      exact wpAny_bind (wpAny_Constant_str (wpAny_bind (wpAny_standAt (wpAny_pure (hQ _ _)))))
  | [], _ :: _, ps, h => nomatch (show (none : Option (List (Int × Str))) = some ps from h)
  | _ :: _, [], ps, h => nomatch (show (none : Option (List (Int × Str))) = some ps from h)

theorem eval_display {E : Value → Shared → Prop} {env : Env} {ks : List (Option Expr)} {vs : List Expr} {pos : Pos} (hS : sysModules < s.heap.objs.size) {ps : List (Int × Str)} {Q : Value → Shared → Prop} (hp : lits ks vs = some ps) (h0 : ps ≠ []) (hn : (ps.map (·.1)).Nodup) (hl : ps.length ≤ 8000)
    (h : ∀ h' kvs tk, h'.DictOf (intKind prog w) s.heap.objs.size kvs → RP kvs ps → (∀ b o, s.heap.get? b = some o → h'.get? b = some o) → Q (.ref s.heap.objs.size) { s with heap := h', toks := tk }) :
    wpAny (model prog w) A (eval (.Dict ks vs pos) env) Q E s := by
  refine Classical.byContradiction fun hNo => ?_
  obtain ⟨h1, h2, h3⟩ := lits_trees (prog := prog) (w := w) (A := A) (env := env) (pos := pos) ks vs hp
  refine hNo ?_
  clear hNo
  rw [arm_eval_Dict, zip_pairTrees ks vs env pos h1 h2]
  exact wpAny_bind (wpAny_standAt (display_ok hS h3 h0 hn hl h))
end
end Mine
end
section
open PySem PySem.W PySem.Calls PyProof.Rows
set_option maxRecDepth 100000
set_option linter.unusedVariables false
set_option linter.unusedSimpArgs false
namespace Mine

/-! ## the top's set -/
noncomputable def valOf9 (st : Stmt) : Expr := match st with | .Assign _ v _ => v | _ => .Constant .none 0 ⟨0, 0, 0, 0⟩
noncomputable def SetObj (prog : Program) (w : World) (o : Obj) : Prop :=
  ∃ es ep t, o.ExactSet ∧ o.data = .set es ep t ∧ ElemsOf (intKind prog w) es.toList ∧ (∀ k, decide (k ∈ b1L) = true ↔ ∃ e ∈ es.toList, (intKind prog w).is k e.2 = true) ∧ es.size < scanBound ∧ t.fits es.size = true
theorem items_ints {c : Int} : ∀ (l : List Value) (k : Nat), (∀ j v, l[j]? = some v → ∃ t, v = Value.int (c + ((k + j : Nat) : Int) * 1) t) → IntsAre l ((List.range' k l.length).map fun i : Nat => c + (i : Int))
  | [], _, _ => .nil
  | v :: l, k, h => by
    obtain ⟨t, rfl⟩ := h 0 v rfl
    rw [List.length_cons, List.range'_succ, List.map_cons]
    have e : c + ((k + 0 : Nat) : Int) * 1 = c + (k : Int) := by simp
    rw [e]
    refine .cons _ t (items_ints l (k + 1) fun j v hv => ?_)
    obtain ⟨t', e'⟩ := h (j + 1) v (by simpa using hv)
    exact ⟨t', by rw [e']; congr 3; omega⟩
theorem any_mem (l : List Int) (k : Int) : (l.any (· == k)) = decide (k ∈ l) := by
  induction l with
  | nil => simp
  | cons a l ih =>
    rw [List.any_cons, ih]
    by_cases h : a = k
    · subst h; simp
    · have : k ≠ a := fun e => h e.symm
      simp [h, this]

section
variable {prog : Program} {w : World} {A : Around} {s : Shared} {E : Value → Shared → Prop} {env : Env} {mg mb : Str → Option Value}
theorem nmM {x : Str} {pos : Pos} {v : Value} {Q : Value → Shared → Prop} (hk : env.scope.kind = .module) (hl : env.locals = env.globals) (hg : env.globals = mainGlobals) (hb : env.builtins = builtinsNs) (g : s.heap.Ns mainGlobals mg) (b : s.heap.Ns builtinsNs mb)
    (hm : mg x = none) (hv : mb x = some v) (h : Q v s) (hd : (x == ("__debug__" : Str)) = false := by decide) : wpAny (model prog w) A (eval (.Name x pos) env) Q E s :=
  Name_module hk hl (loadGlobal_builtin (hg ▸ g) hm (hb ▸ b) hv h) hd

theorem b1_form : ∃ (cs : List (Int × Pos)) (k1 k2 : Nat) (p1 p2 p3 p4 p5 p6 p7 p8 p9 p10 : Pos), cs.map (·.1) = [173, 847, 6150, 6155, 6156, 6157, 8203, 8204, 8205, 8288, 65279] ∧
    valOf9 (stAt 9) = .Call (.Name "set" p1) [.BinOp (.List (cs.map fun c => .Constant (.int c.1) 0 c.2) p2) .Add (.Call (.Name "list" p3) [.Call (.Name "range" p4) [.Constant (.int 65024) k1 p5, .Constant (.int 65040) k2 p6] [] p7] [] p8) p9] [] p10 := by
  refine ⟨[(173, _), (847, _), (6150, _), (6155, _), (6156, _), (6157, _), (8203, _), (8204, _), (8205, _), (8288, _), (65279, _)], _, _, _, _, _, _, _, _, _, _, _, _, rfl, rfl⟩
theorem consts_eval {pos : Pos} : ∀ (cs : List (Int × Pos)) {s : Shared} {Q : List Value → Shared → Prop}, (∀ vs tk, IntsAre vs (cs.map (·.1)) → Q vs { s with toks := tk }) →
    wpAny (model prog w) A (spliced (backTo pos (starEach (cs.map fun c => .Constant (.int c.1) 0 c.2) env))) Q E s
  | [], s, Q, h => args_nil (h [] s.toks .nil)
  | (c, p) :: cs, s, Q, h => by
    rw [List.map_cons]
    refine args_cons (wpAny_Constant_int ?_) ?_
    case refine_2 => rfl
    exact consts_eval cs fun vs tk hv => h _ tk (.cons _ _ hv)

set_option maxHeartbeats 1000000 in
theorem b1_eval (hk : env.scope.kind = .module) (hl : env.locals = env.globals) (hg : env.globals = mainGlobals) (hb : env.builtins = builtinsNs) (hh : A.handled = none) (g : s.heap.Ns mainGlobals mg) (b : s.heap.Ns builtinsNs mb)
    (h1 : mg "set" = none ∧ mb "set" = some (.type "set")) (h2 : mg "list" = none ∧ mb "list" = some (.type "list")) (h3 : mg "range" = none ∧ mb "range" = some (.type "range")) {Q : Value → Shared → Prop}
    (h : ∀ a o h₁ tk, s.heap.objs.size ≤ a → h₁.get? a = some o → SetObj prog w o → (∀ b o', s.heap.get? b = some o' → h₁.get? b = some o') → Q (.ref a) { s with heap := h₁, toks := tk }) :
    wpAny (model prog w) A (eval (valOf9 (stAt 9)) env) Q E s := by
  refine Classical.byContradiction fun hNo => ?_
  obtain ⟨cs, k1, k2, p1, p2, p3, p4, p5, p6, p7, p8, p9, p10, hcs, e⟩ := b1_form
  refine hNo ?_
  clear hNo
  rw [e]
  refine Call_ (nmM hk hl hg hb g b h1.1 h1.2 (PyProof.Rows.callWith_type1 ?_ ?_ ?_))
  case refine_2 => rfl
  case refine_3 => rfl
  refine args_cons (wpAny_BinOp ?_) rfl
  refine wpAny_List ?_
  refine consts_eval cs fun vs tk hv => ?_
  rw [hcs] at hv
  have hvl : vs.length = 11 := hv.length
  refine ⟨by rw [sizeLine_eq]; omega, ?_⟩
  generalize hs1 : s.heap.push { cls := .type "list", data := .seq vs.toArray } = hp1
  have keep1 : ∀ b o, s.heap.get? b = some o → hp1.get? b = some o := fun b o e => by rw [← hs1]; exact Heap.get?_push_of_some _ e
  have hL : hp1.get? s.heap.objs.size = some { cls := .type "list", data := .seq vs.toArray } := by rw [← hs1]; exact Heap.get?_push_size _ rfl
  have hz1 : hp1.objs.size = s.heap.objs.size + 1 := by rw [← hs1]; exact Heap.size_push ..
  refine Call_ (nmM (s := { s with heap := hp1, toks := tk }) hk hl hg hb (g.keeps keep1) (b.keeps keep1) h2.1 h2.2 (PyProof.Rows.callWith_type1 ?_ ?_ ?_))
  case refine_2 => rfl
  case refine_3 => rfl
  refine args_cons ?_ rfl
  refine Call_ (nmM (s := { s with heap := hp1, toks := tk }) hk hl hg hb (g.keeps keep1) (b.keeps keep1) h3.1 h3.2 (PyProof.Rows.callWith_type1 ?_ ?_ ?_))
  case refine_2 => rfl
  case refine_3 => rfl
  refine args_cons (wpAny_Constant_int ?_) rfl
  refine args_cons (wpAny_Constant_int ?_) rfl
  refine args_nil (call_range_2 ?_)
  refine args_nil ?_
  generalize hs2 : hp1.push _ = hp2
  have keep2 : ∀ b o, hp1.get? b = some o → hp2.get? b = some o := fun b o e => by rw [← hs2]; exact Heap.get?_push_of_some _ e
  refine call_list_range (s := { s with heap := hp2, toks := tk + 1 + 1 + 1 }) (n := 16) hh (r := hp1.objs.size) (a := 65024) (b := 65040) (c := 1) (by rw [← hs2]; exact Heap.get?_push_size _ rfl) (by decide) (by decide) (by decide) fun h3 tk3 acc c3 keep3 hA3 hI => ?_
  have hacc := items_ints (c := 65024) acc.toList 0 fun j v hv => by
    have := hI.2 j v (by simpa using hv)
    simpa using this
  have hal : acc.toList.length = 16 := by rw [Array.length_toList]; exact hI.1
  rw [hal] at hacc
  have hL3 := keep3 _ _ (keep2 _ _ hL)
  refine PySem.P.add_list hL3 hA3 ?_ (by rw [sizeLine_eq, List.size_toArray]; have := hI.1; omega)
  refine args_nil ?_
  generalize hs4 : h3.push _ = h4
  have keep4 : ∀ b o, h3.get? b = some o → h4.get? b = some o := fun b o e => by rw [← hs4]; exact Heap.get?_push_of_some _ e
  have hIA : IntsAre (vs.toArray ++ acc).toList b1L := by
    rw [Array.toList_append]
    exact hv.append hacc
  have hsz : (vs.toArray ++ acc).size = 27 := by rw [Array.size_append, List.size_toArray, hvl, hI.1]
  refine call_set_list (s := { s with heap := h4, toks := tk3 }) hh (l := h3.objs.size) (items := vs.toArray ++ acc) ⟨_, by rw [← hs4]; exact Heap.get?_push_size _ rfl, rfl, _, rfl⟩ hIA (by rw [hsz]; decide) fun h5 tk5 hS keep5 => ?_
  refine Classical.byContradiction fun hNo => ?_
  obtain ⟨o, es, ep, t, ho, hx, hd, he, hm, hsz5, hf, _⟩ := hS
  refine hNo ?_
  clear hNo
  have keepA : ∀ b o', s.heap.get? b = some o' → h5.get? b = some o' := fun b o' e => by
    have e4 := keep4 _ _ (keep3 _ _ (keep2 _ _ (keep1 _ _ e)))
    exact keep5 b o' (Heap.lt_size e4) e4
  refine h _ o h5 tk5 ?_ ho ⟨es, ep, t, hx, hd, he, fun k => ?_, hsz5, hf⟩ keepA
  · have z2 : hp2.objs.size = hp1.objs.size + 1 := by rw [← hs2]; exact Heap.size_push ..
    have z3 : hp2.objs.size < h3.objs.size := Heap.lt_size hA3
    have z4 : h4.objs.size = h3.objs.size + 1 := by rw [← hs4]; exact Heap.size_push ..
    show s.heap.objs.size ≤ h4.objs.size
    omega
  · rw [← hm k, hsz]
    show _ ↔ ((firstMet (fun i => b1L.getD i 0) 27).any (· == k)) = true
    rw [firstMet_any]
    have e27 : (List.range 27).map (fun i => b1L.getD i 0) = b1L := by decide
    rw [e27, any_mem]
end
end Mine
end
section
open PySem PySem.W PySem.Calls PyProof.Rows
set_option maxRecDepth 100000
set_option linter.unusedVariables false
set_option linter.unusedSimpArgs false
namespace Mine

/-! ## the top's statements, one by one -/
noncomputable abbrev P0 : Program := PySem.Challenge.pw_zd0014_01
noncomputable def di (i : Nat) : DefItem := ⟨(fn i).name, (fn i).params, (fn i).body, (fn i).scope, (fn i).pos⟩
noncomputable def b3K : List (Option Expr) := match valOf9 (stAt 11) with | .Dict ks _ _ => ks | _ => []
noncomputable def b3V : List Expr := match valOf9 (stAt 11) with | .Dict _ vs _ => vs | _ => []
noncomputable def b3Ps : List (Int × Str) := (lits b3K b3V).getD []
theorem b3_lits : lits b3K b3V = some b3Ps := by
  have h : (lits b3K b3V).isSome = true := by decide +kernel
  obtain ⟨ps, hp⟩ := Option.isSome_iff_exists.mp h
  unfold b3Ps
  rw [hp]; rfl
noncomputable def sortedP : Int → List (Int × Str) → Bool
  | _, [] => true
  | k, p :: ps => decide (k < p.1) && sortedP p.1 ps
theorem sorted_lt : ∀ {k : Int} {ps : List (Int × Str)}, sortedP k ps = true → ∀ x ∈ ps.map (·.1), k < x
  | _, [], _, _, h => by cases h
  | k, p :: ps, h, x, hx => by
    rw [sortedP, Bool.and_eq_true, decide_eq_true_eq] at h
    rcases List.mem_cons.mp hx with rfl | hx
    · exact h.1
    · exact Int.lt_trans h.1 (sorted_lt h.2 x hx)
theorem sorted_nodup : ∀ {k : Int} {ps : List (Int × Str)}, sortedP k ps = true → (ps.map (·.1)).Nodup
  | _, [], _ => by simp
  | k, p :: ps, h => by
    rw [sortedP, Bool.and_eq_true] at h
    rw [List.map_cons, List.nodup_cons]
    exact ⟨fun hm => Int.lt_irrefl _ (sorted_lt h.2 _ hm), sorted_nodup h.2⟩
theorem b3_nodup : (b3Ps.map (·.1)).Nodup := sorted_nodup (k := -1) (by decide +kernel)
theorem b3_len : b3Ps.length ≤ 8000 := by decide +kernel
theorem b3_ne : b3Ps ≠ [] := by
  intro e
  have : b3Ps.isEmpty = false := by decide +kernel
  rw [e] at this; cases this

noncomputable def lookP : List (Int × Str) → Int → Option Str
  | [], _ => none
  | p :: ps, k => if p.1 = k then some p.2 else lookP ps k
theorem look_kvs : ∀ {kvs : List (Int × Value)} {ps : List (Int × Str)}, RP kvs ps → ∀ k, match lookP ps k with | some x => ∃ t, valueAt kvs k = some (.str x t) | none => valueAt kvs k = none
  | [], [], _, k => rfl
  | kv :: kvs, p :: ps, h, k => by
    have ih := look_kvs h.2 k
    unfold lookP valueAt
    rw [List.find?_cons]
    by_cases e : p.1 = k
    · obtain ⟨t, ht⟩ := h.1.2
      rw [if_pos e]
      have : decide (kv.1 = k) = true := by rw [h.1.1]; simpa using e
      rw [this]
      exact ⟨t, by show some kv.2 = _; rw [ht]⟩
    · rw [if_neg e]
      have : decide (kv.1 = k) = false := by rw [h.1.1]; simpa using e
      rw [this]
      exact ih
  | [], _ :: _, h, _ => h.elim
  | _ :: _, [], h, _ => h.elim
noncomputable def saysB (p : Nat × List Nat) : Bool := match lookP b3Ps (p.1 : Int) with
  | some x => decide (x = ⟨p.2.toArray⟩)
  | none => decide (Txt.lower ⟨#[p.1]⟩ = ⟨p.2.toArray⟩)
theorem b3_says : ((List.range 4).all fun i => (List.range 9).all fun j => saysB (signP i j)) = true := by decide +kernel
theorem b3_all {kvs : List (Int × Value)} (h : RP kvs b3Ps) : ∀ i, i < 4 → ∀ j, j < 9 → b3Says (valueAt kvs) (signP i j) := fun i hi j hj => by
  have hs := List.all_eq_true.mp (List.all_eq_true.mp b3_says i (List.mem_range.mpr hi)) j (List.mem_range.mpr hj)
  have hl := look_kvs h ((signP i j).1 : Int)
  unfold saysB at hs
  cases e : lookP b3Ps ((signP i j).1 : Int) with
  | some x =>
    rw [e] at hs hl
    obtain ⟨t, ht⟩ := hl
    have hx : x = ⟨(signP i j).2.toArray⟩ := of_decide_eq_true hs
    exact .inl ⟨t, by rw [ht, hx]⟩
  | none =>
    rw [e] at hs hl
    exact .inr ⟨hl, of_decide_eq_true hs⟩

noncomputable def DictObj (prog : Program) (w : World) (o : Obj) : Prop :=
  ∃ es ep f, o.ExactDict ∧ o.data = .dict es ep ∧ PySem.KeysOf (intKind prog w) es ∧ (∀ k, findBy (intKind prog w).is es k = f k) ∧ ∀ i, i < 4 → ∀ j, j < 9 → b3Says f (signP i j)

section
variable {w : World} {A : Around} {s : Shared} {E : Value → Shared → Prop} {c Pl F : Addr} {h₀ : Heap} {mg₀ mg mg' : Str → Option Value} {ps ps' : Array Value} {h' : Heap}
  {defs : List DefItem} {consts : List (Str × PyData)} {objs : List (Str × (Obj → Prop))} {names : List Str} {Q : Flow → Shared → Prop}
/-- a name that is bound again and again -/
theorem mod_forget {x : Str} {d : PyData} (X : Mod h₀ mg₀ c Pl s.heap mg ps defs [] objs names) (Y : Mod h₀ mg₀ c Pl h' mg' ps' defs ((x, d) :: []) objs (x :: names)) :
    Mod h₀ (fun y => if y = x then mg' x else mg₀ y) c Pl h' mg' ps' defs [] objs names where
  main := Y.main
  keep := Y.keep
  made := Y.made
  bound := fun p hp => by cases hp
  others := fun y hy => by
    by_cases e : y = x
    · rw [if_pos e, e]
    · rw [if_neg e]; exact Y.others y fun hm => (List.mem_cons.mp hm).elim e hy
  dnames := X.dnames
  cnames := fun p hp => by cases hp
  held := Y.held
  onames := X.onames
  grows := Y.grows
  lowP := Y.lowP
  lowG := Y.lowG
  tabs := Y.tabs
theorem name_step {x : Str} {t : Str} {k : Nat} {p1 p2 p3 : Pos} (X : Mod h₀ mg₀ c Pl s.heap mg ps defs [] objs names) (hloc : P0.main.scope.names.lookup x = some .local) (hnew : x ∉ names) (hnb : x ≠ "__builtins__")
    (h : ∀ h' mg' mg₁ tk, Mod h₀ mg₁ c Pl h' mg' ps defs [] objs names → (∀ y, y ≠ x → mg₁ y = mg₀ y) → Q .next { s with heap := h', toks := tk }) :
    wpAny (model P0 w) A (exec (.Assign [.Name x p1] (.Constant (.str t) k p2) p3) (mainEnv P0 c F)) Q E s := by
  refine Mod.assign (d := .str t) X hloc hnew (fun Q' hQ => wpAny_Constant_str (hQ _ _ fun h => .str _ _)) (fun h' mg' tk Y => h h' mg' _ tk (mod_forget X Y) fun y hy => if_neg hy) hnb rfl ?_
  rfl

theorem set_step (hh : A.handled = none) {mb : Str → Option Value} {p1 p3 : Pos} {e : Expr} (he : e = valOf9 (stAt 9)) (X : Mod h₀ mg₀ c Pl s.heap mg ps defs [] objs names) (b : s.heap.Ns builtinsNs mb) (hnew : ("b1_set" : Str) ∉ names)
    (h1 : mg "set" = none ∧ mb "set" = some (.type "set")) (h2 : mg "list" = none ∧ mb "list" = some (.type "list")) (h3 : mg "range" = none ∧ mb "range" = some (.type "range"))
    (h : ∀ h' mg' tk, Mod h₀ mg₀ c Pl h' mg' ps defs [] (("b1_set", SetObj P0 w) :: objs) ("b1_set" :: names) → Q .next { s with heap := h', toks := tk })
    (hsw : swapsWith e (some (.Name "b1_set" p1)) p3.line (mainEnv P0 c F) = pure false) (hloc : P0.main.scope.names.lookup ("b1_set" : Str) = some .local) (hmod : P0.main.scope.kind = .module) :
    wpAny (model P0 w) A (exec (.Assign [.Name "b1_set" p1] e p3) (mainEnv P0 c F)) Q E s := by
  refine Mod.assign_obj (P := SetObj P0 w) X hloc hnew (fun Q' hQ => ?_) h (by decide) hmod hsw
  rw [he]
  exact b1_eval hmod rfl rfl rfl hh X.main.g b h1 h2 h3 hQ

theorem dict_step {p1 p2 p3 : Pos} {ks : List (Option Expr)} {vs : List Expr} (hp : lits ks vs = some b3Ps) (hS : sysModules < s.heap.objs.size) (X : Mod h₀ mg₀ c Pl s.heap mg ps defs [] objs names) (hnew : ("b3_exceptions" : Str) ∉ names)
    (h : ∀ h' mg' tk, Mod h₀ mg₀ c Pl h' mg' ps defs [] (("b3_exceptions", DictObj P0 w) :: objs) ("b3_exceptions" :: names) → Q .next { s with heap := h', toks := tk })
    (hsw : swapsWith (.Dict ks vs p2) (some (.Name "b3_exceptions" p1)) p3.line (mainEnv P0 c F) = pure false) (hloc : P0.main.scope.names.lookup ("b3_exceptions" : Str) = some .local) (hmod : P0.main.scope.kind = .module) :
    wpAny (model P0 w) A (exec (.Assign [.Name "b3_exceptions" p1] (.Dict ks vs p2) p3) (mainEnv P0 c F)) Q E s := by
  refine Mod.assign_obj (P := DictObj P0 w) X hloc hnew (fun Q' hQ => ?_) h (by decide) hmod hsw
  refine eval_display hS hp b3_ne b3_nodup b3_len fun h' kvs tk hD hr hk => ?_
  refine Classical.byContradiction fun hNo => ?_
  obtain ⟨o, es, ep, ho, he, hd, hks, hf⟩ := hD.mapOf
  refine hNo ?_
  clear hNo
  exact hQ _ o h' tk (Nat.le_refl _) ho ⟨es, ep, valueAt kvs, he, hd, hks, hf, b3_all hr⟩ hk
end
end Mine
end
section
open PySem PySem.W PySem.Calls PyProof.Rows
set_option maxRecDepth 100000
set_option linter.unusedVariables false
set_option linter.unusedSimpArgs false
namespace Mine

/-- code objects laid so far, by the lines they stand at -/
noncomputable def Trip (b : Int) : List Value → Prop
  | [] => True
  | .int a _ :: .int _ _ :: _ :: r => a < b ∧ Trip b r
  | _ => False
theorem trip_none {b : Int} {pos : Pos} (h : b ≤ pos.line) : ∀ l : List Value, Trip b l → codeAmong pos l = none
  | [], _ => rfl
  | .int a _ :: .int c _ :: x :: r, t => by
    rw [codeAmong, if_neg]
    · exact trip_none h r t.2
    · have : (a == (pos.line : Int)) = false := beq_eq_false_iff_ne.mpr (by have := t.1; omega)
      rw [this]; simp
theorem trip_more {b b' a c : Int} {x : Value} (h1 : a < b') (h2 : b ≤ b') : ∀ l : List Value, Trip b l → Trip b' (l ++ [rawInt a, rawInt c, x])
  | [], _ => ⟨h1, trivial⟩
  | .int a' _ :: .int c' _ :: x' :: r, t => ⟨Int.lt_of_lt_of_le t.1 h2, trip_more h1 h2 r t.2⟩

structure DefOk (i l : Nat) : Prop where
  line : (fn i).pos.line = l
  form : stAt i = .FunctionDef (fn i).name (fn i).params (fn i).body [] none [] (fn i).scope none (fn i).name (fn i).pos
  tree : PlainDefTree (fn i).name (fn i).params (fn i).body (fn i).scope (fn i).pos
  free : ∀ x ∈ (fn i).scope.names, x.2 ≠ .free
  doc : docOf (fn i).body = none
  loc : P0.main.scope.names.lookup (fn i).name = some .local
  q : qualnameIn { scope := P0.main.scope, locals := mainGlobals, globals := mainGlobals, cells := [] } (fn i).name (fn i).name = (fn i).name
  nb : (fn i).name ≠ "__builtins__"
  nd : (fn i).params.defaults = []
theorem dok_1 : DefOk 1 2 := ⟨rfl, rfl, fun _ => rfl, by decide +kernel, rfl, by decide +kernel, by rfl, by decide +kernel, rfl⟩
theorem dok_2 : DefOk 2 6 := ⟨rfl, rfl, fun _ => rfl, by decide +kernel, rfl, by decide +kernel, by rfl, by decide +kernel, rfl⟩
theorem dok_3 : DefOk 3 19 := ⟨rfl, rfl, fun _ => rfl, by decide +kernel, rfl, by decide +kernel, by rfl, by decide +kernel, rfl⟩
theorem dok_5 : DefOk 5 25 := ⟨rfl, rfl, fun _ => rfl, by decide +kernel, rfl, by decide +kernel, by rfl, by decide +kernel, rfl⟩
theorem dok_6 : DefOk 6 38 := ⟨rfl, rfl, fun _ => rfl, by decide +kernel, rfl, by decide +kernel, by rfl, by decide +kernel, rfl⟩
theorem dok_7 : DefOk 7 56 := ⟨rfl, rfl, fun _ => rfl, by decide +kernel, rfl, by decide +kernel, by rfl, by decide +kernel, rfl⟩
theorem dok_10 : DefOk 10 69 := ⟨rfl, rfl, fun _ => rfl, by decide +kernel, rfl, by decide +kernel, by rfl, by decide +kernel, rfl⟩
theorem dok_12 : DefOk 12 72 := ⟨rfl, rfl, fun _ => rfl, by decide +kernel, rfl, by decide +kernel, by rfl, by decide +kernel, rfl⟩
theorem dok_14 : DefOk 14 78 := ⟨rfl, rfl, fun _ => rfl, by decide +kernel, rfl, by decide +kernel, by rfl, by decide +kernel, rfl⟩
theorem dok_15 : DefOk 15 85 := ⟨rfl, rfl, fun _ => rfl, by decide +kernel, rfl, by decide +kernel, by rfl, by decide +kernel, rfl⟩
theorem dok_16 : DefOk 16 90 := ⟨rfl, rfl, fun _ => rfl, by decide +kernel, rfl, by decide +kernel, by rfl, by decide +kernel, rfl⟩
theorem dok_17 : DefOk 17 92 := ⟨rfl, rfl, fun _ => rfl, by decide +kernel, rfl, by decide +kernel, by rfl, by decide +kernel, rfl⟩
theorem dok_18 : DefOk 18 94 := ⟨rfl, rfl, fun _ => rfl, by decide +kernel, rfl, by decide +kernel, by rfl, by decide +kernel, rfl⟩
theorem dok_19 : DefOk 19 110 := ⟨rfl, rfl, fun _ => rfl, by decide +kernel, rfl, by decide +kernel, by rfl, by decide +kernel, rfl⟩
theorem dok_20 : DefOk 20 121 := ⟨rfl, rfl, fun _ => rfl, by decide +kernel, rfl, by decide +kernel, by rfl, by decide +kernel, rfl⟩
theorem dok_21 : DefOk 21 136 := ⟨rfl, rfl, fun _ => rfl, by decide +kernel, rfl, by decide +kernel, by rfl, by decide +kernel, rfl⟩

section
variable {w : World} {A : Around} {s : Shared} {E : Value → Shared → Prop} {c Pl F : Addr} {h₀ : Heap} {mg₀ mg mg' : Str → Option Value} {ps ps' : Array Value} {h' : Heap}
  {defs : List DefItem} {consts : List (Str × PyData)} {objs : List (Str × (Obj → Prop))} {names : List Str} {Q : Flow → Shared → Prop}
theorem def_step {i l b : Nat} (D : DefOk i l) (X : Mod h₀ mg₀ c Pl s.heap mg ps defs [] objs names) (T : Trip b ps.toList) (hb : b ≤ l) (hnew : (fn i).name ∉ names) (hmod : P0.main.scope.kind = .module)
    (h : ∀ h' mg' ps' tk, Mod h₀ mg₀ c Pl h' mg' ps' (di i :: defs) [] objs ((fn i).name :: names) → Trip ((l + 1 : Nat) : Int) ps'.toList → Q .next { s with heap := h', toks := tk }) :
    wpAny (model P0 w) A (exec (stAt i) (mainEnv P0 c F)) Q E s := by
  rw [D.form]
  refine X.def_plain D.tree D.free D.doc D.loc D.q hnew (fun h' mg' c' tk Y => h h' mg' _ tk Y ?_) D.nb hmod (trip_none (by rw [D.line]; omega) _ T) D.nd
  rw [Array.toList_append]
  exact trip_more (b := b) (by rw [D.line]; omega) (by omega) _ T
theorem name_form : ∀ i ∈ [0, 4, 8, 13], ∃ k p1 p2 p3 t, stAt i = .Assign [.Name "__name__" p1] (.Constant (.str t) k p2) p3 := by
  intro i hi
  simp only [List.mem_cons, List.not_mem_nil, or_false] at hi
  rcases hi with rfl | rfl | rfl | rfl <;> exact ⟨_, _, _, _, _, rfl⟩
theorem name_at {i : Nat} (hi : i ∈ [0, 4, 8, 13]) (X : Mod h₀ mg₀ c Pl s.heap mg ps defs [] objs names) (hloc : P0.main.scope.names.lookup ("__name__" : Str) = some .local) (hnew : ("__name__" : Str) ∉ names)
    (h : ∀ h' mg' mg₁ tk, Mod h₀ mg₁ c Pl h' mg' ps defs [] objs names → (∀ y, y ≠ ("__name__" : Str) → mg₁ y = mg₀ y) → Q .next { s with heap := h', toks := tk }) :
    wpAny (model P0 w) A (exec (stAt i) (mainEnv P0 c F)) Q E s := by
  refine Classical.byContradiction fun hNo => ?_
  obtain ⟨k, p1, p2, p3, t, e⟩ := name_form i hi
  refine hNo ?_
  clear hNo
  rw [e]
  exact name_step X hloc hnew (by decide) h
theorem set_form : ∃ p1 p3, stAt 9 = .Assign [.Name "b1_set" p1] (valOf9 (stAt 9)) p3 := ⟨_, _, rfl⟩
theorem dict_form : ∃ p1 p2 p3, stAt 11 = .Assign [.Name "b3_exceptions" p1] (.Dict b3K b3V p2) p3 := ⟨_, _, _, rfl⟩
theorem body_form : P0.main.body = (List.range 22).map stAt := rfl
theorem swap_call (f : Expr) (as : List Expr) (p : Pos) (t : Option Expr) (l : Nat) (env : Env) : swapsWith (.Call f as [] p) t l env = pure false := rfl
theorem swap_dict (ks : List (Option Expr)) (vs : List Expr) (p : Pos) (t : Option Expr) (l : Nat) (env : Env) : swapsWith (.Dict ks vs p) t l env = pure false := rfl
end
end Mine
end
section
open PySem PySem.W PySem.Calls PyProof.Rows
set_option maxRecDepth 100000
set_option linter.unusedVariables false
set_option linter.unusedSimpArgs false
namespace Mine

section
variable {w : World} {A : Around} {s : Shared} {E : Value → Shared → Prop} {c Pl F : Addr} {mg mb : Str → Option Value} {Q : Flow → Shared → Prop}
structure Bn (mg mb : Str → Option Value) : Prop where
  set : mg "set" = none ∧ mb "set" = some (.type "set")
  list : mg "list" = none ∧ mb "list" = some (.type "list")
  range : mg "range" = none ∧ mb "range" = some (.type "range")
noncomputable def topDefs : List DefItem := [di 21, di 20, di 19, di 18, di 17, di 16, di 15, di 14, di 12, di 10, di 7, di 6, di 5, di 3, di 2, di 1]
noncomputable def topNames : List Str := [(fn 21).name, (fn 20).name, (fn 19).name, (fn 18).name, (fn 17).name, (fn 16).name, (fn 15).name, (fn 14).name, (fn 12).name, "b3_exceptions", (fn 10).name, "b1_set", (fn 7).name, (fn 6).name, (fn 5).name, (fn 3).name, (fn 2).name, (fn 1).name]
noncomputable def topObjs (w : World) : List (Str × (Obj → Prop)) := [("b3_exceptions", DictObj P0 w), ("b1_set", SetObj P0 w)]
set_option maxHeartbeats 4000000 in
theorem top_body (hh : A.handled = none) (X : Mod s.heap mg c Pl s.heap mg #[] [] [] [] []) (b : s.heap.Ns builtinsNs mb) (hS : sysModules < s.heap.objs.size) (hbP : builtinsNs ≠ Pl) (N : Bn mg mb)
    (k : ∀ h' mg' mg₁ ps' tk, Mod s.heap mg₁ c Pl h' mg' ps' topDefs [] (topObjs w) topNames → (∀ y, y ≠ ("__name__" : Str) → mg₁ y = mg y) → Q .next { s with heap := h', toks := tk }) :
    wpAny (model P0 w) A (execs P0.main.body (mainEnv P0 c F)) Q E s := by
  have T0 : Trip ((0 : Nat) : Int) (#[] : Array Value).toList := trivial
  have hname : P0.main.scope.names.lookup ("__name__" : Str) = some .local := by decide +kernel
  rw [body_form]
  show wpAny _ _ (execs [stAt 0, stAt 1, stAt 2, stAt 3, stAt 4, stAt 5, stAt 6, stAt 7, stAt 8, stAt 9, stAt 10, stAt 11, stAt 12, stAt 13, stAt 14, stAt 15, stAt 16, stAt 17, stAt 18, stAt 19, stAt 20, stAt 21] _) _ _ _
  refine wpAny_execs_cons (name_at (i := 0) (by simp) X hname (by decide +kernel) fun h1 mg1 mgz1 tk1 X1 e1 => ?_)
  refine wpAny_execs_cons (def_step dok_1 X1 T0 (by decide) (by decide +kernel) rfl fun h2 mg2 ps2 tk2 X2 T2 => ?_)
  refine wpAny_execs_cons (def_step dok_2 X2 T2 (by decide) (by decide +kernel) rfl fun h3 mg3 ps3 tk3 X3 T3 => ?_)
  refine wpAny_execs_cons (def_step dok_3 X3 T3 (by decide) (by decide +kernel) rfl fun h4 mg4 ps4 tk4 X4 T4 => ?_)
  refine wpAny_execs_cons (name_at (i := 4) (by simp) X4 hname (by decide +kernel) fun h5 mg5 mgz5 tk5 X5 e5 => ?_)
  refine wpAny_execs_cons (def_step dok_5 X5 T4 (by decide) (by decide +kernel) rfl fun h6 mg6 ps6 tk6 X6 T6 => ?_)
  refine wpAny_execs_cons (def_step dok_6 X6 T6 (by decide) (by decide +kernel) rfl fun h7 mg7 ps7 tk7 X7 T7 => ?_)
  refine wpAny_execs_cons (def_step dok_7 X7 T7 (by decide) (by decide +kernel) rfl fun h8 mg8 ps8 tk8 X8 T8 => ?_)
  refine wpAny_execs_cons (name_at (i := 8) (by simp) X8 hname (by decide +kernel) fun h9 mg9 mgz9 tk9 X9 e9 => ?_)
  obtain ⟨q1, q2, hset⟩ := set_form
  rw [hset]
  have hsw : swapsWith (valOf9 (stAt 9)) (some (.Name "b1_set" q1)) q2.line (mainEnv P0 c F) = pure false := by
    obtain ⟨cs, k1, k2, p1, p2, p3, p4, p5, p6, p7, p8, p9, p10, hcs, e⟩ := b1_form
    rw [e]; exact swap_call ..
  have back : ∀ x : Str, x ≠ ("__name__" : Str) → x ∉ ([(fn 7).name, (fn 6).name, (fn 5).name, (fn 3).name, (fn 2).name, (fn 1).name] : List Str) → mg9 x = mg x := fun x hx hn => (X9.others x hn).trans (((e9 x hx).trans ((e5 x hx).trans (e1 x hx))))
  refine wpAny_execs_cons (set_step hh (e := valOf9 (stAt 9)) rfl X9 (b.at fun o => X9.keep _ o hbP (by decide)) (by decide +kernel) ⟨(back _ (by decide) (by decide +kernel)).trans N.set.1, N.set.2⟩ ⟨(back _ (by decide) (by decide +kernel)).trans N.list.1, N.list.2⟩ ⟨(back _ (by decide) (by decide +kernel)).trans N.range.1, N.range.2⟩ (fun h10 mg10 tk10 X10 => ?_) hsw (by decide +kernel) rfl)
  refine wpAny_execs_cons (def_step dok_10 X10 T8 (by decide) (by decide +kernel) rfl fun h11 mg11 ps11 tk11 X11 T11 => ?_)
  obtain ⟨q3, q4, q5, hdict⟩ := dict_form
  rw [hdict]
  refine wpAny_execs_cons ?_
  with_reducible refine dict_step (ks := b3K) (vs := b3V) b3_lits ?_ X11 ?_ ?_ ?_ ?_ ?_
  case refine_1 => exact Nat.lt_of_lt_of_le hS X11.grows
  case refine_2 => decide +kernel
  case refine_4 => exact swap_dict ..
  case refine_5 => decide +kernel
  case refine_6 => rfl
  intro h12 mg12 tk12 X12
  refine wpAny_execs_cons (def_step dok_12 X12 T11 (by decide) (by decide +kernel) rfl fun h13 mg13 ps13 tk13 X13 T13 => ?_)
  refine wpAny_execs_cons (name_at (i := 13) (by simp) X13 hname (by decide +kernel) fun h14 mg14 mgz14 tk14 X14 e14 => ?_)
  refine wpAny_execs_cons (def_step dok_14 X14 T13 (by decide) (by decide +kernel) rfl fun h15 mg15 ps15 tk15 X15 T15 => ?_)
  refine wpAny_execs_cons (def_step dok_15 X15 T15 (by decide) (by decide +kernel) rfl fun h16 mg16 ps16 tk16 X16 T16 => ?_)
  refine wpAny_execs_cons (def_step dok_16 X16 T16 (by decide) (by decide +kernel) rfl fun h17 mg17 ps17 tk17 X17 T17 => ?_)
  refine wpAny_execs_cons (def_step dok_17 X17 T17 (by decide) (by decide +kernel) rfl fun h18 mg18 ps18 tk18 X18 T18 => ?_)
  refine wpAny_execs_cons (def_step dok_18 X18 T18 (by decide) (by decide +kernel) rfl fun h19 mg19 ps19 tk19 X19 T19 => ?_)
  refine wpAny_execs_cons (def_step dok_19 X19 T19 (by decide) (by decide +kernel) rfl fun h20 mg20 ps20 tk20 X20 T20 => ?_)
  refine wpAny_execs_cons (def_step dok_20 X20 T20 (by decide) (by decide +kernel) rfl fun h21 mg21 ps21 tk21 X21 T21 => ?_)
  refine wpAny_execs_cons (def_step dok_21 X21 T21 (by decide) (by decide +kernel) rfl fun h22 mg22 ps22 tk22 X22 T22 => ?_)
  exact wpAny_execs_nil (k _ _ _ _ _ X22 (fun x hx => (e14 x hx).trans ((e9 x hx).trans ((e5 x hx).trans (e1 x hx)))))
end
end Mine
end
section
open PySem PySem.W PySem.Calls PyProof.Rows
set_option maxRecDepth 100000
set_option linter.unusedVariables false
set_option linter.unusedSimpArgs false
namespace Mine

/-! ## the top's run, from where the start-up leaves it -/
structure TopPost (w : World) (mg : Str → Option Value) (s : Shared) (s' : Shared) : Prop where
  gens : s'.gens = s.gens
  os : s'.os = s.os
  keep : ∀ b o, b ≠ mainGlobals → s.heap.get? b = some o → s'.heap.get? b = some o
  ns : ∃ mg', s'.heap.Ns mainGlobals mg' ∧ (∀ x, x ∉ topNames → x ≠ ("__name__" : Str) → mg' x = mg x) ∧ (∀ d ∈ topDefs, ∃ N, d.Made N mg' s'.heap) ∧
    ∀ p ∈ topObjs w, ∃ a o, sysModules < a ∧ mg' p.1 = some (.ref a) ∧ s'.heap.get? a = some o ∧ p.2 o
noncomputable def topTree : Sem Fin := (topStub P0).cur

section
variable {w : World} {s : Shared} {mg mb : Str → Option Value} {Q : Fin → Shared → Prop}
set_option maxHeartbeats 1000000 in
theorem stub_walk (g : s.heap.Ns mainGlobals mg) (b : s.heap.Ns builtinsNs mb) (hS : sysModules < s.heap.objs.size) (hbs : builtinsNs < s.heap.objs.size) (N : Bn mg mb) (hann : hasAnns P0.main.body = false) (hdoc : docOf P0.main.body = none) (hbeh : behindTheImports P0 = P0.main.body)
    (bm : ∃ bm o, mg "__builtins__" = some (.ref bm) ∧ bm ≠ builtinsNs ∧ bm ≠ mainGlobals ∧ s.heap.get? bm = some o ∧ o.cls = .type "module" ∧ o.dict = some builtinsNs ∧ o.data = .plain)
    (k : ∀ s', TopPost w mg s s' → Q (.done (.ret .none)) s') : wpAny (model P0 w) callerA topTree Q (fun _ _ => False) s := by
  unfold topTree topStub
  dsimp only
  refine wpAny_bind (wpAny_moduleCode fun c Pl h₁ tk₁ hk₁ hc hPl hcode => ?_)
  unfold newBodyFrame
  have g₁ := g.keeps hk₁
  refine wpAny_bind (wpAny_bind (wpAny_nsGet (s := { s with heap := h₁, toks := tk₁ }) g₁ (wpAny_alloc ?_)))
  dsimp only
  generalize hh₂ : h₁.push _ = h₂
  have hk₂ : ∀ b o, h₁.get? b = some o → h₂.get? b = some o := fun b o e => by rw [← hh₂]; exact Heap.get?_push_of_some _ e
  have hk : ∀ b o, s.heap.get? b = some o → h₂.get? b = some o := fun b o e => hk₂ _ _ (hk₁ _ _ e)
  rw [hbeh]
  have hglt := g.lt
  have hcode₂ : h₂.IsCode c Pl #[] := by rw [← hh₂]; exact hcode.push _
  refine Classical.byContradiction fun hNo => ?_
  obtain ⟨bmo, o, e1, e2, e3, e4, e5, e6, e7⟩ := bm
  refine hNo ?_
  clear hNo
  have main : h₂.Main mg c Pl #[] := ⟨g.keeps hk, hcode₂, ⟨Nat.lt_of_lt_of_le hglt hc, Nat.lt_of_lt_of_le hglt hPl⟩,
    ⟨bmo, o, e1, e2, e3, Nat.ne_of_lt (Nat.lt_of_lt_of_le (Heap.lt_size e4) hPl), hk _ _ e4, e5, e6, e7⟩⟩
  have hsz : s.heap.objs.size < h₂.objs.size := by
    have : Pl < h₂.objs.size := hcode₂.lt.2
    omega
  have X : Mod h₂ mg c Pl h₂ mg #[] [] [] [] [] := ⟨main, fun _ _ _ _ e => e, (fun _ hd => nomatch hd), (fun _ hp => nomatch hp), fun _ _ => rfl, (fun _ hd => nomatch hd), (fun _ hp => nomatch hp), (fun _ hp => nomatch hp), (fun _ hp => nomatch hp), Nat.le_refl _, hcode₂.lt.2, (g.keeps hk).lt, (fun _ hd => nomatch hd)⟩
  refine wpAny_bind (wpAny_run ?_)
  refine codeAny_body hann hdoc ?_
  refine wpAny_mono (E := fun _ _ => False) (top_body (s := { s with heap := h₂, toks := tk₁ }) (mb := mb) rfl X (b.keeps hk) (Nat.lt_trans hS hsz) (Nat.ne_of_lt (Nat.lt_of_lt_of_le hbs hPl)) N fun h' mg' mg₁ ps' tk Y hy => ?_) (fun _ _ x => x) fun _ _ x => x.elim
  refine wpAny_pure (k _ ⟨rfl, rfl, fun b o hb e => Y.keep b o ?_ hb (hk b o e), mg', Y.main.g, fun x hx hn => (Y.others x hx).trans (hy x hn), fun d hd => ⟨_, Y.made d hd⟩, fun p hp => ?_⟩)
  · exact Nat.ne_of_lt (Nat.lt_of_lt_of_le (Heap.lt_size e) hPl)
  · obtain ⟨a, o, ha, hb, ho, hq⟩ := Y.held p hp
    exact ⟨a, o, Nat.lt_of_lt_of_le (Nat.lt_trans hS hsz) ha, hb, ho, hq⟩
end

/-! ## a thread that ends has been through -/
theorem go_ne {s : Shared} {t : Thread} {o : Outcome} {s' : Shared} : Step.go s t ≠ Step.halt o s' := fun h => by cases h
noncomputable def Ended : Outcome → Prop
  | .done _ => True
  | _ => False
theorem halt_ne {o o' : Outcome} {s s' : Shared} (h1 : ¬Ended o) (h2 : Ended o') : Step.halt o s ≠ Step.halt o' s' := fun h => by cases h; exact h1 h2
theorem ite_halt {b : Bool} {o o₁ o₂ : Outcome} {s s' : Shared} (h1 : ¬Ended o₁) (h2 : ¬Ended o₂) (h : Ended o) : (if b = true then Step.halt o₁ s else Step.halt o₂ s) ≠ Step.halt o s' := by
  cases b
  · exact halt_ne h2 h
  · exact halt_ne h1 h
theorem done_end {p : Program} {w : World} {s s₂ : Shared} {t : Thread} {f : Flow} (hs : step (denote table) p w s t = .halt (.done f) s₂) : through t = true ∧ s₂ = s := by
  have no : ∀ {q : Prop}, q → ¬¬q := fun a b => b a
  obtain ⟨heap, gens, drawn, toks, os⟩ := s
  obtain ⟨cur, code, pos, stack⟩ := t
  cases cur with
  | pure e =>
    cases e with
    | again c => exact absurd hs go_ne
    | done g =>
      cases stack with
      | nil =>
        have h2 : (if leftWithCleanup gens = true then Step.halt (.unsupported "lifetime:generator-with-cleanup-left-suspended") ⟨heap, gens, drawn, toks, os⟩ else .halt (.done g) ⟨heap, gens, drawn, toks, os⟩) = .halt (.done f) s₂ := hs
        generalize leftWithCleanup gens = z at h2
        cases z with
        | true => exact absurd h2 (halt_ne id trivial)
        | false =>
          have h3 : Step.halt (.done g) ⟨heap, gens, drawn, toks, os⟩ = .halt (.done f) s₂ := h2
          injection h3 with _ h4
          exact ⟨rfl, h4.symm⟩
      | cons fr rest => cases fr <;> exact absurd hs go_ne
  | raise e =>
    cases stack with
    | nil => exact absurd hs (ite_halt id id trivial)
    | cons fr rest => cases fr <;> exact absurd hs go_ne
  | finish e => exact absurd hs (ite_halt id id trivial)
  | load a _ k =>
    delta step at hs
    dsimp only at hs
    generalize heap.get? a = z at hs
    cases z
    · exact absurd hs (halt_ne id trivial)
    · exact absurd hs go_ne
  | update a _ u k =>
    delta step at hs
    dsimp only at hs
    generalize (heap.get? a).isSome = z at hs
    cases z
    · exact absurd hs (halt_ne id trivial)
    · exact absurd hs go_ne
  | choose src n k =>
    cases n
    · exact absurd hs (halt_ne id trivial)
    · exact absurd hs go_ne
  | genState g k =>
    delta step at hs
    dsimp only at hs
    generalize gens[g]? = z at hs
    cases z
    · exact absurd hs (halt_ne id trivial)
    · exact absurd hs go_ne
  | resume g r l k =>
    delta step at hs
    dsimp only at hs
    generalize gens[g]? = z at hs
    cases z with
    | none => exact absurd hs (halt_ne id trivial)
    | some st =>
      cases st with
      | fresh c =>
        cases r with
        | send v => cases v <;> exact absurd hs go_ne
        | throw e => exact absurd hs go_ne
      | _ => exact absurd hs go_ne
  | yield v g0 l kk =>
    delta step at hs
    dsimp only at hs
    generalize splitAtGen stack = z at hs
    cases z
    · exact absurd hs (halt_ne id trivial)
    · exact absurd hs go_ne
  | unsupported _ => exact absurd hs (halt_ne id trivial)
  | register _ _ => exact absurd hs (halt_ne id trivial)
  | fork _ _ => exact absurd hs (halt_ne id trivial)
  | await => exact absurd hs (halt_ne id trivial)
  | _ => exact absurd hs go_ne
theorem run_through {p : Program} {w : World} {n : Nat} : ∀ {s s' : Shared} {t : Thread} {f : Flow}, runN (denote table) p w n s t = .halted (.done f) s' → (∀ k s₁ t₁, runN (denote table) p w k s t = .running s₁ t₁ → t₁.calm = true) → s.asleep →
    ∃ m t₁, schedN (denote table) p w m (.single s t) = .running (.single s' t₁) ∧ through t₁ = true := by
  induction n with
  | zero => intro s s' t f h _ _; cases h
  | succ n ih =>
    intro s s' t f h hc hz
    simp only [runN] at h
    cases hs : step (denote table) p w s t with
    | go s₂ t₂ =>
      rw [hs] at h
      obtain ⟨m, t₁, h1, h2⟩ := ih h (fun k s₁ t₁ q => hc (k + 1) s₁ t₁ (by simp only [runN, hs]; exact q)) (Shared.asleep_of_life (step_life (denote table) p w s s₂ t t₂ hs) hz)
      have e := sstep_single (denote table) p w s t (hc 0 s t rfl) hz
      rw [hs] at e
      rcases e with e | e
      · exact ⟨m + 1, t₁, by simp only [schedN, e, Step.lift]; exact h1, h2⟩
      · cases e
    | halt o s₂ =>
      rw [hs] at h
      cases h
      have key := done_end hs
      exact ⟨0, t, by rw [key.2]; rfl, key.1⟩
end Mine
end
section
open PySem PySem.W PySem.Calls PyProof.Rows
set_option maxRecDepth 100000
set_option linter.unusedVariables false
set_option linter.unusedSimpArgs false
namespace Mine

/-! ## the start-up's heap -/
theorem bo_main (P : Params) : (boot_heap P).isNs mainGlobals = true := by kernel_rfl
theorem bo_built (P : Params) : (boot_heap P).isNs builtinsNs = true := by kernel_rfl
theorem bo_stat (P : Params) : (boot_heap P).isNs cStatics = true := by kernel_rfl
theorem bo_acc (P : Params) : (boot_heap P).accountedOkI [] = true := by kernel_rfl
theorem bo_view (P : Params) : (boot_heap P).bltView = bltViewBooted := by kernel_rfl
theorem bo_names (P : Params) : ((boot_heap P).nsKeys mainGlobals).all (fun k => startupNames.contains k) = true := by kernel_rfl
theorem bo_lim (P : Params) : (boot_heap P).nsMap cStatics "sys.recursionlimit" = none := by kernel_rfl
theorem bo_low (P : Params) : Nat.blt sysModules (boot_heap P).objs.size && Nat.blt builtinsNs (boot_heap P).objs.size = true := by kernel_rfl
noncomputable def bltNames : List String := ["isinstance", "tuple", "enumerate", "len", "ord", "chr", "range", "sum", "zip", "set", "list"]
theorem bo_free (P : Params) : (bltNames.all fun x => ((boot_heap P).nsMap mainGlobals (Str.ofString x)).isNone) = true := by kernel_rfl
theorem bo_blt (P : Params) : (bltNames.map fun x => (boot_heap P).nsMap builtinsNs (Str.ofString x)) = [some (.builtin "isinstance"), some (.type "tuple"), some (.type "enumerate"), some (.builtin "len"), some (.builtin "ord"), some (.builtin "chr"), some (.type "range"), some (.builtin "sum"), some (.type "zip"), some (.type "set"), some (.type "list")] := by kernel_rfl
theorem bo_bm (P : Params) : (boot_heap P).nsMap mainGlobals "__builtins__" = some (.ref 4) := by kernel_rfl
theorem bo_bmo (P : Params) : ((boot_heap P).get? 4).map (fun o => (o.cls, o.dict, o.data)) = some (Value.type "module", some builtinsNs, Data.plain) := by kernel_rfl
end Mine
end
section
open PySem PySem.W PySem.Calls PyProof.Rows
set_option maxRecDepth 100000
set_option linter.unusedVariables false
set_option linter.unusedSimpArgs false
namespace Mine

section
variable {w : World} {mg mb : Str → Option Value}
theorem ns_static {h h' : Heap} (k : ∀ o, h.get? cStatics = some o → h'.get? cStatics = some o) (n : h.isNs cStatics = true) (key : Str) : staticOf h' key = staticOf h key := by
  refine Classical.byContradiction fun hNo => ?_
  obtain ⟨o, es, ep, ho, _⟩ := Heap.Ns.of_isNs n
  refine hNo ?_
  clear hNo
  unfold staticOf
  rw [ho, k o ho]
theorem ns_built {h h' : Heap} (k : ∀ o, h.get? builtinsNs = some o → h'.get? builtinsNs = some o) (n : h.isNs builtinsNs = true) (key : Str) : builtinOf h' key = builtinOf h key := by
  refine Classical.byContradiction fun hNo => ?_
  obtain ⟨o, es, ep, ho, _⟩ := Heap.Ns.of_isNs n
  refine hNo ?_
  clear hNo
  unfold builtinOf
  rw [ho, k o ho]
theorem glob_of {h : Heap} (n : h.Ns mainGlobals mg) (x : Str) : globalOf h x = mg x := PySem.Claim2Try.globalOf_of_ns n x
theorem staticsI_congr {h h' : Heap} (e : ∀ key, staticOf h' key = staticOf h key) (x : staticsAccountedI h (importedModules P0.main.body)) : staticsAccountedI h' (importedModules P0.main.body) := by
  intro key v hv
  rw [e] at hv
  have := x key v hv
  simp only [e]
  exact this

theorem all_names {x : Str} (h : x ∈ topNames) : x ∈ P0.boundNames := by
  have : topNames.all (fun x => P0.boundNames.contains x) = true := by decide +kernel
  exact List.contains_iff_mem.mp (List.all_eq_true.mp this x h)

noncomputable def fnsB : List Nat := [1, 2, 3, 5, 6, 7, 10, 12, 14, 15, 16, 17, 18, 19, 20, 21]
theorem di_top : ∀ i ∈ fnsB, di i ∈ topDefs := by
  intro i hi
  simp only [fnsB, List.mem_cons, List.not_mem_nil, or_false] at hi
  unfold topDefs
  rcases hi with rfl | rfl | rfl | rfl | rfl | rfl | rfl | rfl | rfl | rfl | rfl | rfl | rfl | rfl | rfl | rfl <;> simp
theorem di_nd : ∀ i ∈ fnsB, (fn i).params.defaults = [] := by
  intro i hi
  simp only [fnsB, List.mem_cons, List.not_mem_nil, or_false] at hi
  rcases hi with rfl | rfl | rfl | rfl | rfl | rfl | rfl | rfl | rfl | rfl | rfl | rfl | rfl | rfl | rfl | rfl <;> rfl

/-- what the globals are behind the top -/
theorem ge_of {s s' : Shared} (T : TopPost w mg s s') (g : s.heap.Ns mainGlobals mg) (b : s.heap.Ns builtinsNs mb) (lim : s.heap.NoLimit)
    (hb : ∀ x ∈ bltNames, mg (Str.ofString x) = none) (h1 : mb "isinstance" = some (.builtin "isinstance")) (h2 : mb "tuple" = some (.type "tuple")) (h3 : mb "enumerate" = some (.type "enumerate")) (h4 : mb "len" = some (.builtin "len"))
    (h5 : mb "ord" = some (.builtin "ord")) (h6 : mb "chr" = some (.builtin "chr")) (h7 : mb "range" = some (.type "range")) (h8 : mb "sum" = some (.builtin "sum")) (h9 : mb "zip" = some (.type "zip")) :
    ∃ mg', s'.heap.Ns mainGlobals mg' ∧ (∀ x, x ∉ topNames → x ≠ ("__name__" : Str) → mg' x = mg x) ∧ GE P0 w mg' mb s'.heap ∧ (∃ N, (di 21).Made N mg' s'.heap) := by
  refine Classical.byContradiction fun hNo => ?_
  obtain ⟨mg', n, ho, hd, hobj⟩ := T.ns
  refine hNo ?_
  clear hNo
  have none_of : ∀ x : String, x ∈ bltNames → mg' (Str.ofString x) = none := fun x hx => by
    have hall : (bltNames.all fun x => decide (Str.ofString x ∉ topNames ∧ Str.ofString x ≠ ("__name__" : Str))) = true := by decide +kernel
    have := of_decide_eq_true (List.all_eq_true.mp hall x hx)
    rw [ho _ this.1 this.2]; exact hb x hx
  refine ⟨mg', n, ho, ⟨n, b.at fun o => T.keep _ o (by decide), ?_, fun i hi => ?_, ⟨none_of _ (by simp [bltNames]), h1⟩, ⟨none_of _ (by simp [bltNames]), h2⟩, ⟨none_of _ (by simp [bltNames]), h3⟩, ⟨none_of _ (by simp [bltNames]), h4⟩, ⟨none_of _ (by simp [bltNames]), h5⟩, ⟨none_of _ (by simp [bltNames]), h6⟩, ⟨none_of _ (by simp [bltNames]), h7⟩, ⟨none_of _ (by simp [bltNames]), h8⟩, ⟨none_of _ (by simp [bltNames]), h9⟩, ?_, ?_⟩, hd _ (di_top 21 (by simp [fnsB]))⟩
  · exact lim.at fun o => T.keep _ o (by decide)
  · obtain ⟨N, M⟩ := hd _ (di_top i hi)
    refine Classical.byContradiction fun hNo => ?_
    obtain ⟨a, c', o, pm, doc, _, _, e1, e2, e3, e4⟩ := M.plain (di_nd i hi)
    refine hNo ?_
    clear hNo
    exact ⟨a, o, pm, .ref c', doc, e1, e2, e3, e4⟩
  · obtain ⟨a, o, _, e1, e2, es, ep, t, hx, hd', he, hk, hs, hf⟩ := hobj ("b1_set", SetObj P0 w) (by simp [topObjs])
    exact ⟨a, es.size, e1, o, es, ep, t, e2, hx, hd', he, hk, hs, hf, rfl⟩
  · obtain ⟨a, o, ha, e1, e2, es, ep, f, hx, hd', he, hk, hs⟩ := hobj ("b3_exceptions", DictObj P0 w) (by simp [topObjs])
    exact ⟨a, f, e1, beq_eq_false_iff_ne.mpr (Nat.ne_of_gt ha), ⟨o, es, ep, e2, hx, hd', he, hk⟩, hs⟩
end
end Mine
end
section
open PySem PySem.W PySem.Calls PyProof.Rows
set_option maxRecDepth 100000
set_option linter.unusedVariables false
set_option linter.unusedSimpArgs false
namespace Mine

theorem imp_none : importedModules P0.main.body = [] := by decide +kernel
theorem no_anns : hasAnns P0.main.body = false := by decide +kernel
theorem no_doc : docOf P0.main.body = none := by decide +kernel
theorem beh_all : behindTheImports P0 = P0.main.body := by rfl
theorem laid_apart : (laidNames.all fun x => decide (x ∉ topNames ∧ x ≠ ("__name__" : Str))) = true := by decide +kernel
theorem name_bound : ("__name__" : Str) ∈ P0.boundNames := by
  have : P0.boundNames.contains ("__name__" : Str) = true := by decide +kernel
  exact List.contains_iff_mem.mp this
theorem law_def : P0.theDef "law" = some ((fn 21).params, (fn 21).body, (fn 21).scope) := by rfl
theorem law_name : (fn 21).name = "law" := by rfl

/-- what is known behind the top's run -/
structure Behind (w : World) (s₀ s₁ : Shared) : Prop where
  ran : TopRan P0 w s₀ s₁
  asleep : s₁.asleep
  gens : s₁.gens = #[]
  main : s₁.heap.isNs mainGlobals = true ∨ True
  ge : ∃ mg mb, GE P0 w mg mb s₁.heap
  pin : isTheDefsW P0 s₁.heap "law"
  low : sysModules < s₁.heap.objs.size

theorem isNs_nsMap {h : Heap} {a : Addr} (x : h.isNs a = true) : h.Ns a (h.nsMap a) := Heap.Ns.of_isNs x

set_option maxHeartbeats 1000000 in
theorem top_ran {w : World} {s₀ : Shared} (hh : s₀.heap = boot_heap w.params) (hg : s₀.gens = #[]) (hz : s₀.asleep) : ∃ s₁, Behind w s₀ s₁ := by
  have b1 := bo_main w.params; rw [← hh] at b1
  have b2 := bo_built w.params; rw [← hh] at b2
  have b3 := bo_stat w.params; rw [← hh] at b3
  have b4 := bo_acc w.params; rw [← hh] at b4
  have b5 := bo_view w.params; rw [← hh] at b5
  have b6 := bo_names w.params; rw [← hh] at b6
  have b7 := bo_lim w.params; rw [← hh] at b7
  have b8 := bo_low w.params; rw [← hh] at b8
  have b9 := bo_free w.params; rw [← hh] at b9
  have b10 := bo_blt w.params; rw [← hh] at b10
  have b11 := bo_bm w.params; rw [← hh] at b11
  have b12 := bo_bmo w.params; rw [← hh] at b12
  obtain ⟨low1, low2⟩ := Bool.and_eq_true_iff.mp b8
  have low1 : sysModules < s₀.heap.objs.size := by simpa [Nat.blt_eq] using low1
  have low2 : builtinsNs < s₀.heap.objs.size := by simpa [Nat.blt_eq] using low2
  have g := isNs_nsMap b1
  have b := isNs_nsMap b2
  have free : ∀ x ∈ bltNames, s₀.heap.nsMap mainGlobals (Str.ofString x) = none := fun x hx => by
    have := List.all_eq_true.mp b9 x hx
    simpa using this
  refine Classical.byContradiction fun hNo => ?_
  obtain ⟨ob, hob, eob⟩ := Option.map_eq_some_iff.mp b12
  refine hNo ?_
  clear hNo
  have oc : ob.cls = .type "module" := congrArg (·.1) eob
  have od : ob.dict = some builtinsNs := congrArg (·.2.1) eob
  have odt : ob.data = .plain := congrArg (·.2.2) eob
  simp only [bltNames, List.map_cons, List.map_nil, List.cons.injEq, and_true] at b10
  refine Classical.byContradiction fun hNo => ?_
  obtain ⟨m1, m2, m3, m4, m5, m6, m7, m8, m9, m10, m11⟩ := b10
  refine hNo ?_
  clear hNo
  have wk : wpAny (model P0 w) callerA topTree (fun fin s' => ∃ f, fin = .done f ∧ (TopPost w (s₀.heap.nsMap mainGlobals) s₀ s' ∧ s'.gens = #[])) (fun _ _ => False) s₀ := by
    refine stub_walk g b low1 low2 ⟨⟨free _ (by simp [bltNames]), m10⟩, ⟨free _ (by simp [bltNames]), m11⟩, ⟨free _ (by simp [bltNames]), m7⟩⟩ no_anns no_doc beh_all ⟨4, ob, b11, by decide, by decide, hob, oc, od, odt⟩ fun s' T => ⟨_, rfl, T, T.gens.trans hg⟩
  have h' := wp_of_wpAny_done (R := fun r s' => ((∃ f, r = Except.ok f ∧ TopPost w (s₀.heap.nsMap mainGlobals) s₀ s') ∧ s'.gens = #[]) ∧ leftWithCleanup s'.gens = false) caller_in
    (wpAny_mono wk (fun _ _ ⟨f, e, T, hg'⟩ => ⟨f, e, ⟨⟨f, rfl, T⟩, hg'⟩, by rw [hg']; simp [leftWithCleanup]⟩) fun _ _ x => x.elim) default
  refine Classical.byContradiction fun hNo => ?_
  obtain ⟨n, r, s₁, hn, ⟨f, rfl, T⟩, hg1⟩ := (wp_iff_halts (M := model P0 w) (R := fun r s' => (∃ f, r = Except.ok f ∧ TopPost w (s₀.heap.nsMap mainGlobals) s₀ s') ∧ s'.gens = #[]) ..).mp h'
  obtain ⟨s₂, hr, hf, hc⟩ := runNI_real _ _ _ hn (outcomeOf_ends _)
  refine hNo ?_
  clear hNo
  obtain rfl : s₂ = s₁ := Shared.eq_of_forget_eq hf hg1
  have hlife : s₂.heap.life = s₀.heap.life := runN_life _ _ _ hr
  refine Classical.byContradiction fun hNo => ?_
  obtain ⟨m, t₁, hm, ht⟩ := run_through hr hc hz
  obtain ⟨mg', n', ho, G, N, M⟩ := ge_of T g b ⟨_, isNs_nsMap b3, b7⟩ free m1 m2 m3 m4 m5 m6 m7 m8 m9
  refine hNo ?_
  clear hNo
  have es := ns_static (fun o => T.keep _ o (by decide)) b3
  have glob : ∀ x, globalOf s₂.heap x = mg' x := glob_of n'
  have glob0 : ∀ x, globalOf s₀.heap x = s₀.heap.nsMap mainGlobals x := glob_of g
  have eb : mg' "__builtins__" = some (.ref 4) := (ho _ (by decide +kernel) (by decide)).trans b11
  refine ⟨s₂, ⟨⟨m, t₁, hm, ht⟩, hlife, Shared.rest_eq T.os, fun b o e hb => T.keep b o (fun q => hb (.inl q)) e, ?_, ?_, PySem.Pin.keysAreStrs_of_ns n', ?_, ⟨4, ob, (glob _).trans eb, T.keep _ _ (by decide) hob, oc, od⟩, fun g hg' => ?_, fun x v hx => ?_, fun x hx => ?_⟩, Shared.asleep_of_life hlife hz, hg1, .inr trivial, ⟨mg', _, G⟩, ?_, ?_⟩
  · refine staticsI_congr es ?_
    rw [imp_none]
    exact Heap.accountedI_of_ok b4
  · exact fun key => .inl (es key)
  · intro x hx
    rw [ns_built (fun o => T.keep _ o (by decide)) b2, PySem.Pin.builtinOf_eq b2]
    exact Heap.of_bltView b2 b5 x hx
  · rw [hg1] at hg'; simp at hg'
  · rw [glob] at hx
    by_cases h1 : x ∈ topNames
    · exact .inr (all_names h1)
    · by_cases h2 : x = ("__name__" : Str)
      · rw [h2]; exact .inr name_bound
      · rw [ho x h1 h2] at hx
        left
        by_cases hk : x ∈ s₀.heap.nsKeys mainGlobals
        · exact List.contains_iff_mem.mp (List.all_eq_true.mp b6 x hk)
        · rw [Heap.nsMap_none hk] at hx; cases hx
  · have := of_decide_eq_true (List.all_eq_true.mp laid_apart x hx)
    rw [glob, glob0, ho x this.1 this.2]
  · obtain ⟨a, c', o, pm, doc, _, _, e1, e2, e3, e4⟩ := M.plain (di_nd 21 (by simp [fnsB]))
    exact ⟨a, o, _, (fn 21).params, (fn 21).body, (fn 21).scope, (glob _).trans e1, e2, e3, law_def, law_name, law_name, rfl, rfl, rfl, rfl, rfl, rfl, .inl ⟨rfl, rfl⟩, [], by rfl, .inl ⟨rfl, rfl⟩⟩
  · obtain ⟨o, _, _, ho', _⟩ := G.g
    exact Nat.lt_trans (by decide : sysModules < mainGlobals) (Heap.lt_size ho')
end Mine
end
section
open PySem PySem.W PySem.Calls PyProof.Rows
set_option maxRecDepth 100000
set_option linter.unusedVariables false
set_option linter.unusedSimpArgs false
namespace Mine

abbrev row1 : OpenLaw := PySem.Challenge.rw_zd0014_01
theorem args_form {args : List WData} (h : row1.row.toRowW.claim.pre args = true) : ∃ ns : List Int, args = [.list (ns.map .int)] ∧ ns.length ≤ 63 := by
  refine Classical.byContradiction fun hNo => ?_
  obtain ⟨h1, h2⟩ := pre_splitW h
  obtain ⟨d, r, rfl, hd, hr⟩ := hasAllW_cons (e := .list .int) (es := []) h1
  refine hNo ?_
  clear hNo
  have hr0 : r = [] := hasAllW_nil hr
  subst hr0
  refine Classical.byContradiction fun hNo => ?_
  obtain ⟨xs, rfl, hx⟩ := hasW_list hd
  obtain ⟨ns, rfl⟩ := items_int hx
  refine hNo ?_
  clear hNo
  refine ⟨ns, rfl, ?_⟩
  have h2' : (WTm.and (.not (.lt (.lit (.int 63)) (.len (.arg 0)))) (.lit (.bool true))).holds row1.row.toRowW.records { args := [.list (ns.map .int)] } = true := h2
  rcases Nat.lt_or_ge 63 ns.length with hlt | hge
  · exfalso
    have e : (WTm.and (.not (.lt (.lit (.int 63)) (.len (.arg 0)))) (.lit (.bool true))).holds row1.row.toRowW.records { args := [.list (ns.map .int)] } = false := by
      have hl : (63 : Int) < (ns.length : Int) := by omega
      simp [WTm.holds, WTm.value, less?, Num.less?, hl]
    rw [e] at h2'; cases h2'
  · exact hge
end Mine
end
section
open PySem PySem.W PySem.Calls PyProof.Rows
set_option maxRecDepth 100000
set_option linter.unusedVariables false
set_option linter.unusedSimpArgs false
namespace Mine

/-- what is to be shown of law: called with a list of ints it gives True -/
noncomputable def LawSpec : Prop := ∀ (w : World) (s : Shared) (mg mb : Str → Option Value) (a : Addr) (v : Value) (script : List Int), GE P0 w mg mb s.heap → s.gens = #[] → mg "law" = some (.ref a) → IsLst isI s.heap v script → script.length ≤ 63 →
  wpAny (model P0 w) callerA (call (.ref a) [v]) (Ret s s.heap (fun _ r => r = .bool true)) NoE s

theorem ints_reads {P : Params} {h : Heap} : ∀ {vs : List Value} {ns : List Int}, WellAll P h vs (ns.map .int) → All2 (fun v n => isI h v n) vs ns
  | [], [], _ => trivial
  | v :: vs, n :: ns, x => by
    cases x with
    | cons h1 h2 =>
      refine ⟨?_, ints_reads h2⟩
      cases h1
      exact ⟨_, rfl⟩
  | [], _ :: _, x => by cases x
  | _ :: _, [], x => by cases x

theorem opens_well : opensWell P0 = true := by decide +kernel
theorem frees1 : (frees row1.row.toRowW && row1.row.toRowW.within.isEmpty) = true := by decide +kernel
theorem bare1 : P0.bare := ⟨rfl, rfl, rfl, rfl, rfl, by decide +kernel⟩
theorem boot1 (w : World) : (fencedOpening treeTable P0 w 600).map (fun s => (s.heap, s.gens, s.drawn, s.toks)) = some (boot_heap w.params, Array.mk [], boot_drawn, boot_toks) :=
  boot_open (p := P0) (N := 600) (by rfl) (by decide) (fun s => by rfl) w

theorem post_ok (ns : List Int) : row1.row.toRowW.claim.post [.list (ns.map .int)] (.bool true) [.list (ns.map .int)] = true := by
  show (WShape.has row1.row.toRowW.records (.bool true) .bool && (WTm.eq .res (.lit (.bool true))).holds row1.row.toRowW.records { args := [.list (ns.map .int)], res := some (.bool true), after := [.list (ns.map .int)] }) = true
  have e : same (.bool true) (.bool true) = true := by decide +kernel
  have e1 : WShape.has row1.row.toRowW.records (.bool true) .bool = true := by decide +kernel
  rw [e1]
  simp only [WTm.holds, WTm.value, e, Bool.true_and]
set_option maxHeartbeats 1000000 in
theorem open_claim (L : LawSpec) (hw : row1.row.toRowW.promised) : row1.row.toRowW.claim.HoldsOpenBy (callStub "law") ["law"] row1.row.keeps false := by
  refine Classical.byContradiction fun hNo => ?_
  obtain ⟨k5, k6⟩ := Bool.and_eq_true_iff.mp frees1
  obtain ⟨hsame, hu, ha, hap, hm⟩ := frees_parts k5
  refine hNo ?_
  clear hNo
  have after : ∀ w : World, ∃ s s₀, AfterRun (opening P0) w s ∧ fenceModules? P0 s = some s₀ ∧ s₀.heap = boot_heap w.params ∧ s₀.gens = #[] ∧ s₀.asleep := fun w => by
    have h := boot1 w
    rw [← table_eq_tree] at h
    refine Classical.byContradiction fun hNo => ?_
    obtain ⟨s₀, h2, e⟩ := Option.map_eq_some_iff.mp h
    obtain ⟨s, h4, h5⟩ := Option.bind_eq_some_iff.mp h2
    refine hNo ?_
    clear hNo
    have A := AfterImport.of_importEnds h4
    exact ⟨s, s₀, A, h5, congrArg (·.1) e, congrArg (·.2.1) e, Shared.asleep_of_life (fence_lifeW h5) A.life⟩
  refine ⟨⟨bare1, opens_well, rfl⟩, hw.witness, fun w => ?_⟩
  refine Classical.byContradiction fun hNo => ?_
  obtain ⟨s, s₀, A, hf, hheap, hg0, hz0⟩ := after w
  refine hNo ?_
  clear hNo
  refine ⟨⟨s, A⟩, fun s' hs' => ?_⟩
  obtain rfl : s' = s := AfterImport.unique hs' A
  obtain ⟨s₁, B⟩ := top_ran hheap hg0 hz0
  refine ⟨s₀, hf, hg0, s₁, B.ran, fun n hn => ?_, (fun x hx => nomatch hx), (fun x hx => nomatch hx), ?_⟩
  · obtain rfl := List.mem_singleton.mp hn
    exact B.pin
  refine ClaimW.callFrom_of_specG (c := row1.row.toRowW.claim) (tree := fun vs => do match ← nsGet mainNs "law" with
      | some f => do ret (← PySem.call f vs)
      | none => unsupported "claim.caller:no-such-global") B.asleep B.gens fun args hpre hlay ord hord => ?_
  refine Classical.byContradiction fun hNo => ?_
  obtain ⟨ns, rfl, hlen⟩ := args_form hpre
  obtain ⟨⟨vs, s₂⟩, hlaid⟩ := Option.isSome_iff_exists.mp (layAllW_isSome (R := row1.row.toRowW.claim.records) (cl := classAt s₁.heap) (P := w.params) (ord := ord) (fun c hc => (nomatch hc)) _ row1.row.args s₁ (pre_splitW hpre).1)
  refine hNo ?_
  clear hNo
  have keeps := layAllW_keeps _ _ _ hlaid
  have hal := layAllW_rest _ _ _ hlaid
  refine Classical.byContradiction fun hNo => ?_
  obtain ⟨as, hrd, hin, hold⟩ := reads_layAllW hord _ _ _ hlaid hlay s₂.heap (fun _ _ e => e)
  refine hNo ?_
  clear hNo
  have LD : Laid row1.row.toRowW.claim.records w s₁ s₂ [.list (ns.map .int)] vs as := ⟨⟨ord, hord, hlaid⟩, hrd, hin, hold, keeps, hal.1.trans B.gens, hal.2.2.1⟩
  have WL := well_layAllW hord _ s₁ _ hlaid s₂.heap fun _ _ e => e
  have hi := ident_freeW hu ha hap
  have hwi : row1.row.toRowW.claim.within = [] := List.isEmpty_iff.mp k6
  refine Classical.byContradiction fun hNo => ?_
  obtain ⟨mg, mb, G⟩ := B.ge
  refine hNo ?_
  clear hNo
  have G₂ := G.keeps (R' := s₂.heap) keeps
  have hvs : ∃ v, vs = [v] ∧ IsLst isI s₂.heap v ns := by
    cases WL with
    | cons h1 h2 =>
      cases h2
      cases h1 with
      | list e hv => exact ⟨_, rfl, _, _, rfl, ⟨_, e⟩, ints_reads hv⟩
  refine Classical.byContradiction fun hNo => ?_
  obtain ⟨v, rfl, hv⟩ := hvs
  obtain ⟨a, o, pm, cd, doc, hmg, ho, hd, hcd⟩ := G₂.fns 21 (by simp)
  refine hNo ?_
  clear hNo
  have hmg' : mg "law" = some (.ref a) := hmg
  refine ⟨[v], s₂, hlaid, ?_⟩
  refine wpAny_bind (wpAny_nsGet G₂.g ?_)
  rw [hmg']
  refine wpAny_bind (wpAny_mono (L w s₂ mg mb a v ns G₂ (hal.1.trans B.gens) hmg' hv hlen) (fun r s₃ h₃ => ?_) fun _ _ x => x.elim)
  refine Classical.byContradiction fun hNo => ?_
  obtain ⟨st, R', g', hR', rfl⟩ := h₃
  refine hNo ?_
  clear hNo
  have bare3 : AllBare s₃.gens := st.bare (by rw [hal.1.trans B.gens]; exact .of_eq rfl)
  have GW : GoodWG row1.row.toRowW.claim (classAt s₁.heap) (ExcName.means s₁.heap) [.list (ns.map .int)] s₂ (.ok (.ret (.bool true))) s₃ :=
    ⟨.inl ⟨.bool true, .bool true, [], rfl, fun cls => by rfl, .bool true, post_ok ns, fun _ => ⟨List.nodup_nil, fun a ha => by cases ha⟩⟩, .of_keep st.sub, st.os, bare3⟩
  have z := GW.laid (c := row1.row.toRowW.claim) hsame hwi hi LD
  exact wpAny_pure ⟨_, rfl, z.1, z.2.1, z.2.2, fun q => by cases q⟩

theorem looks1 : looksOpen row1.row.prog = true := by
  delta looksOpen
  repeat' (with_reducible apply look_both)
  all_goals decide +kernel
theorem partSaid1 : row1.row.partSaid = true := by
  delta OpenRow.partSaid
  repeat' (with_reducible apply look_both)
  · exact looks1
  all_goals decide +kernel
theorem row_said1 : row1.row.wellSaid = true := by
  delta OpenRow.wellSaid
  repeat' (with_reducible apply look_both)
  · exact partSaid1
  all_goals decide +kernel
theorem said1 : OpenLaw.wellSaid row1 = true := by
  delta OpenLaw.wellSaid
  repeat' (with_reducible apply look_both)
  · exact row_said1
  all_goals decide +kernel
theorem promised1 : row1.row.toRowW.promised := ⟨[.list []], by decide +kernel, by decide +kernel⟩
theorem holds_of (L : LawSpec) : PySem.Challenge.rw_zd0014_01.Holds :=
  holds_law said1 fun said => ⟨said, promised1, open_claim L promised1⟩
end Mine
end
section
open PySem PySem.W PySem.Calls PyProof.Rows
set_option maxRecDepth 100000
set_option linter.unusedVariables false
set_option linter.unusedSimpArgs false
namespace Mine

theorem room1 : AOk callerA 41 := ⟨rfl, by decide, by decide⟩
theorem law_spec : LawSpec := by
  intro w s mg mb a v script G hg hmg hv hn
  refine enterC G 21 (k := 40) (binds := [("script", v)]) room1 (Sub.refl _) law_name hmg (by simp) ?_ ?_ (fun L cd s₁ F _ hcells A' => ?_) rfl rfl rfl
  · exact fun _ _ _ => rfl
  · rfl
  · have c1 : s₁.heap.IsCell (L + 1) none := hcells "family" (L + 1) rfl
    have c2 : s₁.heap.IsCell (L + 2) none := hcells "initial" (L + 2) rfl
    have F' : Fm s s.heap [L + 2, L + 1] L (bindL (envOfC (fn 21).name (fn 21).scope L a cd).kindOf [(("script" : Str), v)] fun _ => none) s₁ := F
    generalize hm : (bindL (envOfC (fn 21).name (fn 21).scope L a cd).kindOf [(("script" : Str), v)] fun _ => none) = m at F'
    have e1 : m "script" = some v := by rw [← hm]; rfl
    with_reducible exact law_body G A' e1 hv hn ⟨F', c1, c2⟩ rfl
end Mine
set_option maxHeartbeats 8000000 in
theorem PySem.Challenge.cw_zd0014_01_holds : PySem.Challenge.rw_zd0014_01.Holds :=
  Mine.holds_of Mine.law_spec
end
