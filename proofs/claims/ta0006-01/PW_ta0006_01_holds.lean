import PyProof.Rows.All
import Wide.All
import OpenK.AllK
import Wide.FinOn
import PySem.Challenge.RW_ta0006_01
set_option Elab.async false
section
open PySem PySem.W PyProof.Rows
namespace Mine
set_option maxRecDepth 100000 in
set_option maxHeartbeats 8000000 in
open_top hd for PySem.Challenge.rw_ta0006_01
end Mine

end
section
open PySem PySem.W PyProof.Rows PySem.Calls
namespace Mine
noncomputable abbrev KK (w : World) : Frag := Mine.hd.heap_39 w.params
abbrev PP : Program := Challenge.rw_ta0006_01.row.prog

structure Base (w : World) (h : Heap) : Prop where
  X : (KK w).In h
  T : ∃ p loose mg mb, TopRead p loose mg mb h

theorem Base.keeps {w : World} {h h' : Heap} (B : Base w h) (k : ∀ b o, h.get? b = some o → h'.get? b = some o) : Base w h' :=
  ⟨B.X.keeps k, let ⟨p, l, mg, mb, T⟩ := B.T; ⟨p, l, mg, mb, T.keeps k⟩⟩
theorem Base.nolimit {w : World} {h : Heap} (B : Base w h) : h.NoLimit := let ⟨_, _, _, _, T⟩ := B.T; T.nolimit

section
variable {w : World} {A : Around} {s : Shared} {R : Result → Shared → Prop}
theorem code_of {h : Heap} (B : Base w h) {c : Addr} {q : Str} (e : codeIn (KK w) (.ref c) q = true) : h.CodeRec (.ref c) q := codeRec_of B.X e

set_option maxRecDepth 20000 in
theorem mul_C {a b : Int} {t u : Tok} (B : Base w s.heap) (hroom : A.depth < recursionLimit) (hm : IntMulOk a b)
    (h : ∀ h' tk tr, (∀ b o, s.heap.get? b = some o → h'.get? b = some o) → R (.ok (.ret (.int (a * b) tr))) { s with heap := h', toks := tk }) :
    codeAny (model PP w) A (.call (.ref 52) ⟨[.int a t, .int b u], []⟩) R s := by
  have ho := B.X 52 _ rfl
  refine call_pos_ret hroom ho rfl B.nolimit (code_of B (by kernel_rfl)) rfl (locs rfl) ?_
  intro h₁ F
  refine wpAny_execs_cons ?_
  refine wpAny_Return_some ?_
  refine wpAny_BinOp ?_
  refine ld F rfl ?_
  refine ld F rfl ?_
  refine mul_int ?_ hm
  exact h _ _ _ F.keep
end
end Mine

end
section
open PySem PySem.W PyProof.Rows PySem.Calls
namespace Mine
abbrev NoE : Value → Shared → Prop := fun _ _ => False

structure Led (h₀ : Heap) (L : Addr) (h : Heap) (m : Str → Option Value) (cs : List (Addr × Obj)) : Prop where
  F : Fr h₀ L h m
  N : News h₀ L h cs
  nd : (cs.map (·.1)).Nodup

section
variable {h₀ h h' : Heap} {L a : Addr} {m m' : Str → Option Value} {cs cs' : List (Addr × Obj)} {o o' : Obj}

theorem Led.start {h₁ : Heap} (F : Fr h₀ L h₁ m) : Led h₀ L h₁ m [] := ⟨F, News.nil, List.nodup_nil⟩
theorem Led.get (D : Led h₀ L h m cs) (hm : (a, o) ∈ cs) : h.get? a = some o := (D.N _ hm).1
theorem Led.get0 (D : Led h₀ L h m ((a, o) :: cs)) : h.get? a = some o := (D.N _ (.head _)).1
theorem Led.lt (D : Led h₀ L h m cs) {p : Addr × Obj} (hp : p ∈ cs) : p.1 < h.objs.size := Heap.lt_size (D.N _ hp).1
theorem Led.push (D : Led h₀ L h m cs) (o : Obj) (hf : o.isFreed = false := by rfl) : Led h₀ L (h.push o) m ((h.objs.size, o) :: cs) :=
  ⟨D.F.push o, D.N.push D.F o hf, by
    rw [List.map_cons, List.nodup_cons]
    refine ⟨fun hm => ?_, D.nd⟩
    obtain ⟨p, hp, e⟩ := List.mem_map.mp hm
    exact Nat.lt_irrefl _ (e ▸ D.lt hp)⟩
theorem Led.set (D : Led h₀ L h m cs) (hn : h'.Ns L m') (hs : Heap.SameBut L h h') : Led h₀ L h' m' cs := ⟨D.F.set hn hs, D.N.set hs, D.nd⟩
theorem Led.keep (D : Led h₀ L h m cs) (k : ∀ b o, h.get? b = some o → h'.get? b = some o) : Led h₀ L h' m cs :=
  ⟨⟨D.F.ns.keeps k, fun b o e => k b o (D.F.keep b o e), D.F.above⟩, fun p hp => ⟨k _ _ (D.N p hp).1, (D.N p hp).2⟩, D.nd⟩
theorem Led.base_lt (D : Led h₀ L h m cs) : h₀.objs.size ≤ h.objs.size := Nat.le_trans D.F.above (Nat.le_of_lt D.F.ns.lt)
theorem Led.new (D : Led h₀ L h m cs) (k : ∀ b o, h.get? b = some o → h'.get? b = some o) (e : h'.get? a = some o) (hn : h.get? a = none) : Led h₀ L h' m ((a, o) :: cs) := by
  have D' := D.keep k
  refine ⟨D'.F, ?_, ?_⟩
  · intro p hp
    rcases List.mem_cons.mp hp with rfl | hp
    · refine ⟨e, fun q => ?_, ?_⟩
      · obtain ⟨_, _, _, hL, _⟩ := D.F.ns
        dsimp only at q
        rw [q, hL] at hn; cases hn
      · cases q : h₀.get? a with
        | none => rfl
        | some o₀ => rw [D.F.keep _ _ q] at hn; cases hn
    · exact D'.N p hp
  · rw [List.map_cons, List.nodup_cons]
    refine ⟨fun hm => ?_, D.nd⟩
    obtain ⟨p, hp, q⟩ := List.mem_map.mp hm
    have := (D.N p hp).1
    rw [q, hn] at this; cases this
theorem Led.sub (D : Led h₀ L h m cs) (hs : cs'.Sublist cs) : Led h₀ L h m cs' := ⟨D.F, fun p hp => D.N p (hs.subset hp), D.nd.sublist (hs.map _)⟩
theorem Led.perm (D : Led h₀ L h m cs) (hs : cs'.Perm cs) : Led h₀ L h m cs' := ⟨D.F, fun p hp => D.N p (hs.subset hp), (hs.map _).nodup_iff.mpr D.nd⟩
/-- the head cell turned -/
theorem Led.upd (D : Led h₀ L h m ((a, o) :: cs)) (hs : ∀ b x, b ≠ a → h.get? b = some x → h'.get? b = some x) (e : h'.get? a = some o') : Led h₀ L h' m ((a, o') :: cs) := by
  have H := D.N _ (.head _)
  have nd := D.nd
  rw [List.map_cons, List.nodup_cons] at nd
  refine ⟨⟨D.F.ns.at' fun x q => hs _ _ (Ne.symm H.2.1) q, fun b x q => hs _ _ (fun z => ?_) (D.F.keep b x q), D.F.above⟩, fun p hp => ?_, D.nd⟩
  · subst z; have := H.2.2; dsimp only at this; rw [q] at this; cases this
  · rcases List.mem_cons.mp hp with rfl | hp
    · exact ⟨e, H.2⟩
    · have P := D.N p (.tail _ hp)
      exact ⟨hs _ _ (fun z => nd.1 (List.mem_map.mpr ⟨p, hp, z⟩)) P.1, P.2⟩
/-- the head cell forgotten, whatever became of it -/
theorem Led.lose (D : Led h₀ L h m ((a, o) :: cs)) (hs : ∀ b x, b ≠ a → h.get? b = some x → h'.get? b = some x) : Led h₀ L h' m cs := by
  have H := D.N _ (.head _)
  have nd := D.nd
  rw [List.map_cons, List.nodup_cons] at nd
  refine ⟨⟨D.F.ns.at' fun x q => hs _ _ (Ne.symm H.2.1) q, fun b x q => hs _ _ (fun z => ?_) (D.F.keep b x q), D.F.above⟩, fun p hp => ?_, nd.2⟩
  · subst z; have := H.2.2; dsimp only at this; rw [q] at this; cases this
  · have P := D.N p (.tail _ hp)
    exact ⟨hs _ _ (fun z => nd.1 (List.mem_map.mpr ⟨p, hp, z⟩)) P.1, P.2⟩
theorem Led.up1 (D : Led h₀ L h m (p :: (a, o) :: cs)) (hs : ∀ b x, b ≠ a → h.get? b = some x → h'.get? b = some x) (e : h'.get? a = some o') : Led h₀ L h' m (p :: (a, o') :: cs) :=
  ((D.perm (List.Perm.swap ..)).upd hs e).perm (List.Perm.swap ..)
theorem Led.old (D : Led h₀ L h m cs) (e : h₀.get? a = some o) : h.get? a = some o := D.F.keep _ _ e
theorem Led.base {w : World} (D : Led h₀ L h m cs) (B : Base w h₀) : Base w h := B.keeps D.F.keep
end

/-- a name kept -/
theorem lk_ne {x y : Str} {u v : Option Value} {m : Str → Option Value} (h : m x = v) (hn : (x == y) = false := by rfl) : (fun z => if z = y then u else m z) x = v := by
  have : x ≠ y := by simpa using hn
  show (if x = y then u else m x) = v
  rw [if_neg this]; exact h
theorem lk_eq {y : Str} {u : Option Value} {m : Str → Option Value} : (fun z => if z = y then u else m z) y = u := if_pos rfl

section
variable {prog : Program} {w : World} {A : Around} {E : Value → Shared → Prop} {s : Shared} {env : Env} {h₀ : Heap}

theorem st_ {name : Str} {scope : Scope} {L a : Addr} {cd : Value} {m : Str → Option Value} {cs : List (Addr × Obj)} {x : Str} {v : Value} {Q : Unit → Shared → Prop} (D : Led h₀ L s.heap m cs)
    (h : ∀ h', Led h₀ L h' (fun y => if y = x then some v else m y) cs → Q () { s with heap := h', toks := s.toks + 1 })
    (hk : scope.kind = .function := by rfl) (hl : (envOf name scope L a cd).kindOf x = some .local := by rfl) :
    wpAny (model prog w) A (storeName (envOf name scope L a cd) x v) Q E s :=
  wpAny_storeName_local hl D.F.ns (fun h' hn hs => h h' (D.set hn hs))
    (by show (scope.kind == .class || (scope.kind == .module && L != mainGlobals)) = false; rw [hk]; rfl)

/-- as the library's Walks, the item told beside the counter of tokens at its making -/
structure WalkK (prog : Program) (w : World) (A : Around) (I : Addr) (fp : List Addr) (n : Nat) (P : Nat → Tok → Value → Prop) (St : Nat → Heap → Prop) : Prop where
  frame : ∀ i h h', St i h → (∀ b ∈ fp, ∀ o, h.get? b = some o → h'.get? b = some o) → St i h'
  item : ∀ i (s : Shared) (Q : Option Value → Shared → Prop) (E : Value → Shared → Prop), i < n → St i s.heap →
    (∀ v h' tk, P i s.toks v → s.toks ≤ tk → St (i + 1) h' → (∀ b o, b ≠ I → s.heap.get? b = some o → h'.get? b = some o) → Q (some v) { s with heap := h', toks := tk }) → wpAny (model prog w) A (pyNext (.ref I)) Q E s
  done : ∀ (s : Shared) (Q : Option Value → Shared → Prop) (E : Value → Shared → Prop), St n s.heap →
    (∀ h' tk, s.toks ≤ tk → (∀ b o, b ≠ I → s.heap.get? b = some o → h'.get? b = some o) → Q none { s with heap := h', toks := tk }) → wpAny (model prog w) A (pyNext (.ref I)) Q E s
theorem WalkK.of {I : Addr} {fp : List Addr} {n : Nat} {P : Nat → Value → Prop} {St : Nat → Heap → Prop} {A : Around} (W : Walks prog w A I fp [I] n P St) : WalkK prog w A I fp n (fun i _ v => P i v) St where
  frame := W.frame
  item := fun i s Q E hi st hQ => wpAny_with_toks (Nat.le_refl s.toks) (W.item i s _ _ hi st fun v h' tk hP st' hk htk => hQ v h' tk hP htk st' fun b o hb e => hk b o (by simpa using hb) e)
  done := fun s Q E st hQ => wpAny_with_toks (Nat.le_refl s.toks) (W.done s _ _ st fun h' tk hk htk => hQ h' tk htk fun b o hb e => hk b o (by simpa using hb) e)
theorem WalkK.str {A : Around} (hh : A.handled = none) (I : Addr) (x : Str) (t : Tok) : WalkK prog w A I [I] x.cps.size (fun i u v => ∃ c, x.cps[i]? = some c ∧ v = .str ⟨#[c]⟩ u ∧ True) (fun i h => h.IsStrIter I (strIterType x) x t i) where
  frame := fun _ _ _ st hk => let ⟨o, ho, r⟩ := st; ⟨o, hk I (by simp) o ho, r⟩
  item := fun i s Q E hi st hQ => by
    unfold strIterType at st hQ
    split at st
    · rename_i ha
      rw [if_pos ha] at hQ
      refine wpAny_pyNext_ascii_item st (c := x.cps[i]) (by simp [hi]) fun h' hit' hs' => ?_
      exact hQ _ h' _ ⟨_, by simp [hi], rfl, trivial⟩ (Nat.le_succ _) hit' fun b o hb e => hs'.extBut b o hb e
    · rename_i ha
      rw [if_neg ha] at hQ
      refine wpAny_pyNext_wide_item st (c := x.cps[i]) (by simp [hi]) fun h' hit' hs' => ?_
      exact hQ _ h' _ ⟨_, by simp [hi], rfl, trivial⟩ (Nat.le_succ _) hit' fun b o hb e => hs'.extBut b o hb e
  done := fun s Q E st hQ => by
    unfold strIterType at st
    split at st
    · exact wpAny_pyNext_ascii_end hh st (by simp) fun h' he' => hQ h' s.toks (Nat.le_refl _) fun b o hb e => he' b o hb e
    · exact wpAny_pyNext_wide_end hh st (by simp) fun h' he' => hQ h' s.toks (Nat.le_refl _) fun b o hb e => he' b o hb e

theorem loopW {I : Addr} {fp : List Addr} {n : Nat} {P : Nat → Tok → Value → Prop} {St : Nat → Heap → Prop} {x : Str} {px : Pos} {body : List Stmt} {Q : Flow → Shared → Prop} {m : Str → Option Value} {cs : List (Addr × Obj)} {o : Obj}
    (W : WalkK prog w A I fp n P St) (hx : env.kindOf x = some .local)
    (hp : (env.scope.kind == .class || (env.scope.kind == .module && env.locals != env.globals)) = false)
    (Inv : Nat → (Str → Option Value) → List (Addr × Obj) → Prop)
    (hfp : ∀ b ∈ fp, b ≠ I → (∃ o, h₀.get? b = some o) ∨ ∃ o, ∀ i m cs, Inv i m cs → (b, o) ∈ cs)
    (hLf : env.locals ∉ fp) (D : Led h₀ env.locals s.heap m ((I, o) :: cs)) (hst : St 0 s.heap) (h0 : Inv 0 m cs) (hob : ∀ i h, St i h → ∃ o, h.get? I = some o)
    (turn : ∀ i v u m₁ cs₁ o₁ h tk, s.toks ≤ u → u ≤ tk → i < n → P i u v → Inv i m₁ cs₁ → Led h₀ env.locals h (fun y => if y = x then some v else m₁ y) ((I, o₁) :: cs₁) →
      wpAny (model prog w) A (execs body env) (fun f s₂ => match f with
        | .ret v => Q (.ret v) s₂
        | .brk => Q .next s₂
        | _ => ∃ h' tk' m' cs', s₂ = { s with heap := h', toks := tk' } ∧ Led h₀ env.locals h' m' ((I, o₁) :: cs') ∧ Inv (i + 1) m' cs') NoE { s with heap := h, toks := tk })
    (done : ∀ h tk m₁ cs₁, s.toks ≤ tk → Inv n m₁ cs₁ → Led h₀ env.locals h m₁ cs₁ → Q .next { s with heap := h, toks := tk }) :
    codeAny (model prog w) A (.forLoop (.Name x px) (.ref I) body [] env) (fun r s' => match r with | .ok f => Q f s' | .error e => cameBackBy (model prog w) A env NoE e s') s := by
  refine codeAny_forLoop
    (fun k s' => ∃ h' tk m' cs' o' i, s.toks ≤ tk ∧ s' = { s with heap := h', toks := tk } ∧ St i h' ∧ Led h₀ env.locals h' m' ((I, o') :: cs') ∧ Inv i m' cs' ∧ i ≤ n ∧ k = n + 1 - i) ?_ (n + 1)
    ⟨s.heap, s.toks, m, cs, o, 0, Nat.le_refl _, rfl, hst, D, h0, Nat.zero_le _, rfl⟩
  rintro k s' ⟨h', tk, m', cs', o', i, hT, rfl, hst', D', hI, hi, rfl⟩
  by_cases hlt : i < n
  · refine W.item i _ _ _ hlt hst' fun v h₁ tk₁ hP hU hst₁ hk₁ => ?_
    have hT₁ : s.toks ≤ tk₁ := Nat.le_trans hT hU
    obtain ⟨o₁, ho₁⟩ := hob _ _ hst₁
    have D₁ : Led h₀ env.locals h₁ m' ((I, o₁) :: cs') := D'.upd hk₁ ho₁
    refine wpAny_assign_Name (wpAny_storeName_local hx D₁.F.ns (fun h₂ hn₂ hs₂ => ?_) hp)
    have D₂ := D₁.set hn₂ hs₂
    have hst₂ : St (i + 1) h₂ := W.frame _ _ _ hst₁ fun b hb o e => (hs₂.2 b fun q => hLf (q ▸ hb)).trans e
    refine wpAny_mono (wpAny_toks_of (n := s.toks) (Nat.le_succ_of_le hT₁) (turn i v _ m' cs' o₁ h₂ _ hT (Nat.le_succ_of_le hU) hlt hP hI D₂)) (fun f s₃ h₃ => ?_) fun _ _ e => e.2.elim
    obtain ⟨hT₃, h₃⟩ := h₃
    have fin : (∃ h' tk' m' cs', s₃ = { s with heap := h', toks := tk' } ∧ Led h₀ env.locals h' m' ((I, o₁) :: cs') ∧ Inv (i + 1) m' cs') → ∃ k', k' < n + 1 - i ∧
        ∃ h' tk m' cs' o' j, s.toks ≤ tk ∧ s₃ = { s with heap := h', toks := tk } ∧ St j h' ∧ Led h₀ env.locals h' m' ((I, o') :: cs') ∧ Inv j m' cs' ∧ j ≤ n ∧ k' = n + 1 - j := by
      rintro ⟨h₄, tk₄, m₃, cs₃, e₄, D₃, I₃⟩
      refine ⟨n + 1 - (i + 1), by omega, h₄, tk₄, m₃, cs₃, o₁, i + 1, by rw [e₄] at hT₃; exact hT₃, e₄, ?_, D₃, I₃, hlt, rfl⟩
      refine W.frame _ _ _ hst₂ fun b hb o e => ?_
      by_cases hbI : b = I
      · subst hbI
        rw [D₂.get0] at e; cases e
        exact D₃.get0
      · rcases hfp b hb hbI with ⟨o₀, e₀⟩ | ⟨o₀, hin⟩
        · rw [D₂.old e₀] at e; cases e; exact D₃.old e₀
        · rw [D₂.get (.tail _ (hin _ _ _ hI))] at e; cases e
          exact D₃.get (.tail _ (hin _ _ _ I₃))
    cases f with
    | ret v => exact h₃
    | brk => exact h₃
    | cont => exact fin h₃
    | next => exact fin h₃
  · have hin : i = n := by omega
    subst hin
    refine W.done _ _ _ hst' fun h₁ tk₁ hU hk₁ => wpAny_execs_nil ?_
    exact done h₁ tk₁ m' cs' (Nat.le_trans hT hU) hI (D'.lose hk₁)
end
end Mine

end
section
open PySem PySem.W PyProof.Rows PySem.Calls
namespace Mine
abbrev lstN (vs : List Value) (n : Nat) : Obj := { cls := .type "list", data := .seq vs.toArray n }
abbrev lst (vs : List Value) : Obj := { cls := .type "list", data := .seq vs.toArray }
abbrev tup (vs : List Value) : Obj := { cls := .type "tuple", data := .seq vs.toArray }
theorem lst_is {h : Heap} {a : Addr} {vs : List Value} {n : Nat} (e : h.get? a = some (lstN vs n)) : h.IsList a vs.toArray := ⟨_, e, rfl, n, rfl⟩
theorem tup_is {h : Heap} {a : Addr} {vs : List Value} {n : Nat} (e : h.get? a = some { cls := .type "tuple", data := .seq vs.toArray n }) : h.IsTuple a vs.toArray := ⟨_, e, rfl, n, rfl⟩

local macro_rules | `(tactic| walk_at "lk") => `(tactic| first | assumption | exact if_pos rfl | (refine (if_neg (by decide)).trans ?_; walk_at "lk") | rfl)

/-- a keeping of all that stood -/
abbrev Kp (h h' : Heap) : Prop := ∀ b o, h.get? b = some o → h'.get? b = some o

section
variable {w : World} {A : Around} {R : Result → Shared → Prop} {h₀ h : Heap} {g : Array GenState} {d : Drawn} {t : Nat} {os : OsState} {E : Value → Shared → Prop} {L a : Addr} {m : Str → Option Value} {cs : List (Addr × Obj)} {cn : Str} {sc : Scope} {ccd : Value} {env : Env}

/-- global names of the text -/
theorem gl_ {x : Str} {pos : Pos} {v : Value} {Q : Value → Shared → Prop}
    (D : Led h₀ L h m cs) (B : Base w h₀) (e : nsIn (KK w) mainGlobals x = some (some v)) (k : Q v ⟨h, g, d, t, os⟩)
    (hk : sc.kind = .function := by rfl) (hx : (envOf cn sc L a ccd).kindOf x = some .globalImplicit := by rfl) (hd : (x == ("__debug__" : Str)) = false := by decide) :
    wpAny (model PP w) A (eval (.Name x pos) (envOf cn sc L a ccd)) Q E ⟨h, g, d, t, os⟩ :=
  let ⟨_, _, _, _, T⟩ := B.T; name_K D.F B.X T e k hk hx hd
theorem bn_ {x : Str} {pos : Pos} {v : Value} {Q : Value → Shared → Prop}
    (D : Led h₀ L h m cs) (B : Base w h₀) (e : nsIn (KK w) mainGlobals x = some none) (hv : bootBuiltins x = some v) (hn : x ≠ "__name__") (k : Q v ⟨h, g, d, t, os⟩)
    (hk : sc.kind = .function := by rfl) (hx : (envOf cn sc L a ccd).kindOf x = some .globalImplicit := by rfl) (hd : (x == ("__debug__" : Str)) = false := by decide) :
    wpAny (model PP w) A (eval (.Name x pos) (envOf cn sc L a ccd)) Q E ⟨h, g, d, t, os⟩ :=
  let ⟨_, _, _, _, T⟩ := B.T; name_B D.F B.X T e hv hn k hk hx hd
theorem ln_ {x : Str} {pos : Pos} {v : Value} {Q : Value → Shared → Prop}
    (D : Led h₀ L h m cs) (hv : m x = some v) (k : Q v ⟨h, g, d, t, os⟩)
    (hk : sc.kind = .function := by rfl) (hl : (envOf cn sc L a ccd).kindOf x = some .local := by rfl)
    (hd : (x == ("__debug__" : Str)) = false := by decide) :
    wpAny (model PP w) A (eval (.Name x pos) (envOf cn sc L a ccd)) Q E ⟨h, g, d, t, os⟩ := ld (s := ⟨h, g, d, t, os⟩) D.F hv k hk hl hd
theorem sn_ {x : Str} {v : Value} {Q : Unit → Shared → Prop} (D : Led h₀ L h m cs)
    (k : ∀ h' tk, t ≤ tk → Led h₀ L h' (fun y => if y = x then some v else m y) cs → Q () ⟨h', g, d, tk, os⟩)
    (hk : sc.kind = .function := by rfl) (hl : (envOf cn sc L a ccd).kindOf x = some .local := by rfl) :
    wpAny (model PP w) A (storeName (envOf cn sc L a ccd) x v) Q E ⟨h, g, d, t, os⟩ :=
  st_ (s := ⟨h, g, d, t, os⟩) D (fun h' D' => k h' _ (Nat.le_succ _) D') hk hl
theorem ci_ {i k pos} {Q : Value → Shared → Prop} (hq : ∀ u tk, t ≤ tk → Q (.int i u) ⟨h, g, d, tk, os⟩) : wpAny (model PP w) A (eval (.Constant (.int i) k pos) env) Q E ⟨h, g, d, t, os⟩ := wpAny_Constant_int (hq _ _ (Nat.le_succ _))
theorem cs_ {x k pos} {Q : Value → Shared → Prop} (hq : ∀ u tk, t ≤ u → u < tk → Q (.str x u) ⟨h, g, d, tk, os⟩) : wpAny (model PP w) A (eval (.Constant (.str x) k pos) env) Q E ⟨h, g, d, t, os⟩ := wpAny_Constant_str (hq _ _ (Nat.le_refl _) (Nat.lt_succ_self _))
theorem asg_ {x pos' value pos} {Q : Flow → Shared → Prop} {s : Shared}
    (k : wpAny (model PP w) A (eval value env) (fun v s' => wpAny (model PP w) A (storeName env x v) (fun _ s'' => Q .next s'') E s') E s)
    (hs : swapsWith value (some (.Name x pos')) pos.line env = pure false := by rfl) : wpAny (model PP w) A (exec (.Assign [.Name x pos'] value pos) env) Q E s :=
  wpAny_Assign_Name k hs
theorem add_ {i j u v} {Q : Value → Shared → Prop} (k : ∀ u tk, t ≤ tk → Q (.int (i + j) u) ⟨h, g, d, tk, os⟩) : wpAny (model PP w) A (binaryOp .Add (.int i u) (.int j v)) Q E ⟨h, g, d, t, os⟩ := wpAny_add_int (k _ _ (Nat.le_succ _))
theorem sub_ {i j u v} {Q : Value → Shared → Prop} (k : ∀ u tk, t ≤ tk → Q (.int (i - j) u) ⟨h, g, d, tk, os⟩) : wpAny (model PP w) A (binaryOp .Sub (.int i u) (.int j v)) Q E ⟨h, g, d, t, os⟩ := sub_int (k _ _ (Nat.le_succ _))
theorem mul_ {i j u v} {Q : Value → Shared → Prop} (hm : IntMulOk i j) (k : ∀ u tk, t ≤ tk → Q (.int (i * j) u) ⟨h, g, d, tk, os⟩) : wpAny (model PP w) A (binaryOp .Mult (.int i u) (.int j v)) Q E ⟨h, g, d, t, os⟩ := mul_int (k _ _ (Nat.le_succ _)) hm
theorem nl_ {vs : List Value} {Q : Value → Shared → Prop} (D : Led h₀ L h m cs) (hsz : vs.length ≤ sizeLine)
    (k : ∀ h' a, Kp h h' → h.get? a = none → Led h₀ L h' m ((a, lst vs) :: cs) → Q (.ref a) ⟨h', g, d, t, os⟩) : wpAny (model PP w) A (newList vs) Q E ⟨h, g, d, t, os⟩ :=
  wpAny_newObj_type (k _ _ (fun b o e => Heap.get?_push_of_some _ e) (Heap.get?_none_of_le (Nat.le_refl _)) (D.push _)) (by show vs.toArray.size ≤ sizeLine; rw [List.size_toArray]; exact hsz)
theorem nt_ {vs : List Value} {Q : Value → Shared → Prop} (D : Led h₀ L h m cs) (hsz : vs.length ≤ sizeLine)
    (k : ∀ h' a, Kp h h' → h.get? a = none → Led h₀ L h' m ((a, tup vs) :: cs) → Q (.ref a) ⟨h', g, d, t, os⟩) : wpAny (model PP w) A (newTuple vs) Q E ⟨h, g, d, t, os⟩ :=
  wpAny_newObj_type (k _ _ (fun b o e => Heap.get?_push_of_some _ e) (Heap.get?_none_of_le (Nat.le_refl _)) (D.push _)) (by show vs.toArray.size ≤ sizeLine; rw [List.size_toArray]; exact hsz)
/-- a call of a def of the text, by name -/
theorem cw_ {pos : Pos} {f : Value} {e : Expr} {rest : List Expr} {Q : Value → Shared → Prop} {s : Shared} (B : Base w h₀) (hk : keepIn (KK w) f = true)
    (k : wpAny (model PP w) A (spliced (backTo pos (starEach (e :: rest) env))) (fun vs s₁ => Base w s₁.heap ∧ wpAny (model PP w) A (call f vs) Q E s₁) E s)
    (he : starEach (e :: rest) env = (false, eval e env) :: starEach rest env := by rfl) (hplain : (backTo pos (starEach rest env)).any (·.1) = false := by rfl) :
    wpAny (model PP w) A (callWith pos f [] (backTo pos (starEach (e :: rest) env)) []) Q E s :=
  callWith_K (first := []) B.X hk (wpAny_mono k (fun _ _ q => ⟨q.1.X, q.2⟩) fun _ _ x => x) he hplain
theorem ca_ {f : Value} {args : List Value} {Q : Value → Shared → Prop} {s : Shared}
    (k : codeAny (model PP w) A (.call f ⟨args, []⟩) (fun r s' => match r with | .ok (.ret v) => Q v s' | .ok _ => False | .error e => E e s') s) : wpAny (model PP w) A (call f args) Q E s := wpAny_call k

/-- entering a def of the text -/
theorem ent_ {name : Str} {params : Arguments} {body : List Stmt} {scope : Scope} {pm doc : Value} {f c : Addr} {args : List Value} (B : Base w h) (hroom : A.depth < recursionLimit)
    (ho : h.get? f = some { cls := .type "function", data := .func (Calls.docDef name params body scope pm (.ref c) doc) })
    (hcd : codeIn (KK w) (.ref c) name = true)
    (hbind : bindArgs (Calls.docDef name params body scope pm (.ref c) doc) ⟨args, []⟩ = pure ((params.args.map (·.arg)).zip args))
    (hloc : ((params.args.map (·.arg)).zip args |>.all fun x => decide (scope.names.lookup x.1 = some .local)) = true)
    (k : ∀ h₁ tk, t ≤ tk → Led h h.objs.size h₁ (fun x => ((params.args.map (·.arg)).zip args).reverse.lookup x) [] →
      wpAny (model PP w) (A.deeper (envOf name scope h.objs.size f (.ref c))) (execs body (envOf name scope h.objs.size f (.ref c)))
        (fun f s' => R (.ok (.ret (match f with | .ret v => v | _ => .none))) s') NoE ⟨h₁, g, d, tk, os⟩)
    (hco : scope.isCoroutine = false := by rfl) (hgen : scope.isGenerator = false := by rfl) (hk : scope.kind = .function := by rfl)
    (hcell : ∀ x ∈ scope.names, x.2 ≠ .cell := by decide) : codeAny (model PP w) A (.call (.ref f) ⟨args, []⟩) R ⟨h, g, d, t, os⟩ :=
  call_pos_ret (s := ⟨h, g, d, t, os⟩) hroom ho rfl B.nolimit (code_of B hcd) hbind (locs hloc) (fun h₁ F => k h₁ _ (Nat.le_add_right ..) (Led.start F)) hco hgen hk hcell
/-- a for over a list -/
theorem fl_ {l : Addr} {items : Array Value} {x : Str} {px : Pos} {body : List Stmt} {Q : Flow → Shared → Prop}
    (hA : A.handled = none) (Inv : Nat → (Str → Option Value) → List (Addr × Obj) → Prop) (D : Led h₀ L h m cs) (hl : h.IsList l items)
    (hlw : (∃ o, h₀.get? l = some o) ∨ ∃ o, ∀ i m cs, Inv i m cs → (l, o) ∈ cs) (hlL : l ≠ L) (h0 : Inv 0 m cs)
    (turn : ∀ I o₁ i v m₁ cs₁ h' tk, t ≤ tk → items[i]? = some v → Inv i m₁ cs₁ → Led h₀ L h' (fun y => if y = x then some v else m₁ y) ((I, o₁) :: cs₁) →
      wpAny (model PP w) A (execs body (envOf cn sc L a ccd)) (fun f s₂ => match f with
        | .ret v => Q (.ret v) s₂
        | .brk => Q .next s₂
        | _ => ∃ h'' tk' m' cs', s₂ = ⟨h'', g, d, tk', os⟩ ∧ Led h₀ L h'' m' ((I, o₁) :: cs') ∧ Inv (i + 1) m' cs') NoE ⟨h', g, d, tk, os⟩)
    (done : ∀ h' tk m₁ cs₁, t ≤ tk → Inv items.size m₁ cs₁ → Led h₀ L h' m₁ cs₁ → Q .next ⟨h', g, d, tk, os⟩)
    (hk : sc.kind = .function := by rfl) (hx : (envOf cn sc L a ccd).kindOf x = some .local := by rfl) :
    wpAny (model PP w) A (pyIter (.ref l)) (fun it s₂ => codeAny (model PP w) A (.forLoop (.Name x px) it body [] (envOf cn sc L a ccd)) (fun r s' => match r with | .ok f => Q f s' | .error e => cameBackBy (model PP w) A (envOf cn sc L a ccd) NoE e s') s₂) NoE ⟨h, g, d, t, os⟩ := by
  refine wpAny_pyIter_list (s := ⟨h, g, d, t, os⟩) hl ?_
  obtain ⟨ol, hol, hcl⟩ := id hl
  have hlt : l < h.objs.size := Heap.lt_size hol
  have hne : l ≠ h.objs.size := Nat.ne_of_lt hlt
  refine loopW (h₀ := h₀) (s := ⟨h.push { cls := .type "list_iterator", data := .fields #[.ref l, .int 0 0] }, g, d, t, os⟩) (WalkK.of (Walks.list (prog := PP) (w := w) hA h.objs.size l hne items)) hx
    (by show (sc.kind == .class || (sc.kind == .module && L != mainGlobals)) = false; rw [hk]; rfl) Inv ?_ ?_ (D.push _) ⟨⟨_, Heap.get?_push_size _ rfl, rfl, rfl⟩, hl.push _⟩ h0 (fun i h' st => let ⟨o, ho, _⟩ := st.1; ⟨o, ho⟩)
    (fun i v u m₁ cs₁ o₁ h' tk hT hU _ hP hI D' => turn h.objs.size o₁ i v m₁ cs₁ h' tk (Nat.le_trans hT hU) hP hI D') (fun h' tk m₁ cs₁ hT hI D' => done h' tk m₁ cs₁ hT hI D')
  · intro b hb hbI
    rcases List.mem_cons.mp hb with e | hb
    · exact absurd e hbI
    · rw [List.mem_singleton.mp hb]; exact hlw
  · intro hm
    rcases List.mem_cons.mp hm with e | hm
    · exact absurd D.F.ns.lt (by show ¬ (L < h.objs.size); rw [show L = h.objs.size from e]; exact Nat.lt_irrefl _)
    · exact hlL (List.mem_singleton.mp hm).symm
/-- a tuple of the call's own taken apart -/
theorem ui_ {tp : Addr} {vs : List Value} {n : Nat} {Q : List Value → Shared → Prop} (hA : A.handled = none) (D : Led h₀ L h m cs) (ht : h.get? tp = some (tup vs)) (hn : n = vs.length)
    (k : ∀ h', Led h₀ L h' m cs → Q vs ⟨h', g, d, t, os⟩) : wpAny (model PP w) A (unpackItems (.ref tp) n none) Q E ⟨h, g, d, t, os⟩ := by
  have := wpAny_unpackItems_tuple (prog := PP) (w := w) (A := A) (E := E) (s := ⟨h, g, d, t, os⟩) (items := vs.toArray) (Q := Q) hA (tup_is ht) fun h' hx => k h' (D.keep fun b o e => hx b o (Nat.ne_of_lt (Heap.lt_size e)) e)
  rw [List.size_toArray, ← hn] at this
  exact this
theorem aio2_ {x1 x2 : Str} {v1 v2 : Value} {Q : Unit → Shared → Prop} {s : Shared} (k : wpAny (model PP w) A (storeName env x1 v1) (fun _ s₁ => wpAny (model PP w) A (storeName env x2 v2) (fun _ s₂ => Q () s₂) E s₁) E s) :
    wpAny (model PP w) A (assignInOrder [bindName env x1, bindName env x2] [v1, v2]) Q E s := by
  show wpAny (model PP w) A (do holding [v2] (bindName env x1 v1); (do holding [] (bindName env x2 v2); pure ())) Q E s
  exact wpAny_bind (wpAny_holding (wpAny_bindName (wpAny_mono k (fun _ _ q => wpAny_bind (wpAny_holding (wpAny_bindName (wpAny_mono q (fun _ _ q => wpAny_pure q) fun _ _ x => x)))) fun _ _ x => x)))
/-- the end of a block of statements, and of a turn -/
theorem xn_ {Q : Flow → Shared → Prop} {s : Shared} (k : Q .next s) : wpAny (model PP w) A (execs [] env) Q E s := wpAny_execs_nil k
/-- a for over a text -/
theorem fs_ {x : Str} {tx : Tok} {y : Str} {px : Pos} {body : List Stmt} {Q : Flow → Shared → Prop}
    (hA : A.handled = none) (Inv : Nat → (Str → Option Value) → List (Addr × Obj) → Prop) (D : Led h₀ L h m cs) (h0 : Inv 0 m cs)
    (turn : ∀ I o₁ i c u m₁ cs₁ h' tk, t ≤ u → u ≤ tk → x.cps[i]? = some c → Inv i m₁ cs₁ → Led h₀ L h' (fun z => if z = y then some (.str ⟨#[c]⟩ u) else m₁ z) ((I, o₁) :: cs₁) →
      wpAny (model PP w) A (execs body (envOf cn sc L a ccd)) (fun f s₂ => match f with
        | .ret v => Q (.ret v) s₂
        | .brk => Q .next s₂
        | _ => ∃ h'' tk' m' cs', s₂ = ⟨h'', g, d, tk', os⟩ ∧ Led h₀ L h'' m' ((I, o₁) :: cs') ∧ Inv (i + 1) m' cs') NoE ⟨h', g, d, tk, os⟩)
    (done : ∀ h' tk m₁ cs₁, t ≤ tk → Inv x.cps.size m₁ cs₁ → Led h₀ L h' m₁ cs₁ → Q .next ⟨h', g, d, tk, os⟩)
    (hk : sc.kind = .function := by rfl) (hx : (envOf cn sc L a ccd).kindOf y = some .local := by rfl) :
    wpAny (model PP w) A (pyIter (.str x tx)) (fun it s₂ => codeAny (model PP w) A (.forLoop (.Name y px) it body [] (envOf cn sc L a ccd)) (fun r s' => match r with | .ok f => Q f s' | .error e => cameBackBy (model PP w) A (envOf cn sc L a ccd) NoE e s') s₂) NoE ⟨h, g, d, t, os⟩ := by
  refine wpAny_pyIter_strU (s := ⟨h, g, d, t, os⟩) ?_
  refine loopW (h₀ := h₀) (s := ⟨h.push { cls := .type (strIterType x), data := .fields #[.str x tx, .int 0 0] }, g, d, t, os⟩) (WalkK.str (prog := PP) (w := w) hA h.objs.size x tx) hx
    (by show (sc.kind == .class || (sc.kind == .module && L != mainGlobals)) = false; rw [hk]; rfl) Inv (fun b hb hbI => absurd (List.mem_singleton.mp hb) hbI) ?_ (D.push _) ⟨_, Heap.get?_push_size _ rfl, rfl, rfl⟩ h0 (fun i h' st => let ⟨o, ho, _⟩ := st; ⟨o, ho⟩)
    (fun i v u m₁ cs₁ o₁ h' tk hT hU _ hP hI D' => ?_) (fun h' tk m₁ cs₁ hT hI D' => done h' tk m₁ cs₁ hT hI D')
  · intro hm
    exact absurd D.F.ns.lt (by show ¬ (L < h.objs.size); rw [show L = h.objs.size from List.mem_singleton.mp hm]; exact Nat.lt_irrefl _)
  · obtain ⟨c, hc, rfl, _⟩ := hP
    exact turn h.objs.size o₁ i c u m₁ cs₁ h' tk hT hU hc hI D'
end
end Mine

end
section
open PySem PySem.W PyProof.Rows PySem.Calls
namespace Mine
local macro_rules | `(tactic| walk_at "lk") => `(tactic| first | assumption | exact if_pos rfl | (refine (if_neg (by decide)).trans ?_; walk_at "lk") | rfl)
section
variable {w : World} {A : Around} {R : Result → Shared → Prop} {h₀ h : Heap} {g : Array GenState} {d : Drawn} {t : Nat} {os : OsState} {E : Value → Shared → Prop} {L a : Addr} {m : Str → Option Value} {cs : List (Addr × Obj)} {cn : Str} {sc : Scope} {ccd : Value} {env : Env}
theorem sub_C {i j : Int} {u v : Tok} (B : Base w h) (hroom : A.depth < recursionLimit)
    (k : ∀ h' tk tr, Kp h h' → R (.ok (.ret (.int (i - j) tr))) ⟨h', g, d, tk, os⟩) :
    codeAny (model PP w) A (.call (.ref 59) ⟨[.int i u, .int j v], []⟩) R ⟨h, g, d, t, os⟩ := by
  have ho := B.X 59 _ rfl
  refine ent_ B hroom ho (by kernel_rfl) rfl rfl fun h₁ tk _ D => ?_
  refine wpAny_execs_cons (wpAny_Return_some (wpAny_BinOp ?_))
  refine ln_ D rfl (ln_ D rfl (sub_ fun u tk _ => ?_))
  exact k _ _ _ D.F.keep
theorem mul_C' {i j : Int} {u v : Tok} (B : Base w h) (hroom : A.depth < recursionLimit) (hm : IntMulOk i j)
    (k : ∀ h' tk tr, Kp h h' → R (.ok (.ret (.int (i * j) tr))) ⟨h', g, d, tk, os⟩) :
    codeAny (model PP w) A (.call (.ref 52) ⟨[.int i u, .int j v], []⟩) R ⟨h, g, d, t, os⟩ := by
  have ho := B.X 52 _ rfl
  refine ent_ B hroom ho (by kernel_rfl) rfl rfl fun h₁ tk _ D => ?_
  refine wpAny_execs_cons (wpAny_Return_some (wpAny_BinOp ?_))
  refine ln_ D rfl (ln_ D rfl (mul_ hm fun u tk _ => ?_))
  exact k _ _ _ D.F.keep

theorem g_mul : nsIn (KK w) mainGlobals "mul" = some (some (.ref 52)) := by kernel_rfl
theorem g_sub : nsIn (KK w) mainGlobals "sub" = some (some (.ref 59)) := by kernel_rfl
theorem k_mul : keepIn (KK w) (.ref 52) = true := by kernel_rfl
theorem k_sub : keepIn (KK w) (.ref 59) = true := by kernel_rfl
end

def foldStep (p : Int × Int) (d : Int) : Int × Int := (d * p.1 - p.2, p.1)
def foldL (ns : List Int) : Int × Int := ns.foldl foldStep (1, 0)

section
variable {w : World} {A : Around} {R : Result → Shared → Prop} {h₀ h : Heap} {g : Array GenState} {d : Drawn} {t : Nat} {os : OsState} {E : Value → Shared → Prop} {L a : Addr} {m : Str → Option Value} {cs : List (Addr × Obj)} {cn : Str} {sc : Scope} {ccd : Value} {env : Env}
set_option maxRecDepth 20000 in
theorem fold_C {l : Addr} {vs : List Value} {ns : List Int} (B : Base w h) (hroom : A.depth + 1 < recursionLimit) (hA : A.handled = none)
    (hl : h.IsList l vs.toArray) (hi : IntsAre vs ns) (hb : ∀ d ∈ ns, Builtin.Int.intBits d ≤ 64)
    (k : ∀ h' tk r t1 t2, Kp h h' → h'.get? r = some (lst [.int (foldL ns).1 t1, .int (foldL ns).2 t2]) → h.get? r = none → R (.ok (.ret (.ref r))) ⟨h', g, d, tk, os⟩) :
    codeAny (model PP w) A (.call (.ref 114) ⟨[.ref l], []⟩) R ⟨h, g, d, t, os⟩ := by
  have ho := B.X 114 _ rfl
  refine ent_ B (by omega) ho (by kernel_rfl) rfl rfl fun h₁ tk _ D => ?_
  refine wpAny_execs_cons (asg_ (ci_ fun u1 tk _ => sn_ D fun h₂ tk _ D => ?_))
  refine wpAny_execs_cons (asg_ (ci_ fun u2 tk _ => sn_ D fun h₃ tk _ D => ?_))
  refine wpAny_execs_cons (wpAny_For (ln_ D rfl ?_))
  have hl3 : h₃.IsList l vs.toArray := hl.at fun o e => D.old e
  obtain ⟨ol, hol, _⟩ := id hl
  refine fl_ hA (fun i m cs => cs = [] ∧ (∃ u, m "over" = some (.int (foldL (ns.take i)).1 u)) ∧ ∃ u, m "under" = some (.int (foldL (ns.take i)).2 u)) D hl3 (.inl ⟨ol, hol⟩) (Nat.ne_of_lt (Heap.lt_size hol))
    ⟨rfl, ⟨_, rfl⟩, _, rfl⟩ ?_ ?_
  · rintro I o₁ i v m₁ cs₁ h₄ tk _ hv ⟨rfl, ⟨u1, e1⟩, u2, e2⟩ D
    obtain ⟨n, hn, tn, rfl⟩ : ∃ n, ns[i]? = some n ∧ ∃ t, v = .int n t := by
      have hlt : i < ns.length := by have := (Array.getElem?_eq_some_iff.mp hv).1; simpa [hi.length] using this
      obtain ⟨t, hx⟩ := hi.get i ns[i] (by simp [hlt])
      refine ⟨ns[i], by simp [hlt], t, ?_⟩
      have hv' : vs[i]? = some v := by simpa using hv
      rw [hx] at hv'; exact (Option.some.inj hv').symm
    have hlt : i < ns.length := (List.getElem?_eq_some_iff.mp hn).1
    refine wpAny_execs_cons (Assign_Tuple_swapped (names := ["over", "under"]) (Tuple_ ?_))
    refine spliced_more (Call_ (gl_ D B g_sub ?_))
    refine cw_ B k_sub (spliced_more (Call_ (gl_ D B g_mul ?_)))
    refine cw_ B k_mul (spliced_more (ln_ D lk_eq (spliced_more (ln_ D (lk_ne e1) (spliced_none ⟨D.base B, ca_ ?_⟩)))))
    refine mul_C' (D.base B) (by show A.depth + 1 < _; omega) (IntMulOk.of_left (hb _ (List.mem_of_getElem? hn))) fun h₅ tk u1 K => ?_
    have D := D.keep K
    dsimp only
    refine spliced_more (ln_ D (lk_ne e2) (spliced_none ⟨D.base B, ca_ ?_⟩))
    refine sub_C (D.base B) (by show A.depth + 1 < _; omega) fun h₆ tk u1 K => ?_
    have D := D.keep K
    dsimp only
    refine spliced_more (ln_ D (lk_ne e1) (spliced_none ?_))
    refine nt_ D (Nat.le_of_ble_eq_true rfl) fun h₇ tp K _ D => ?_
    refine ui_ hA D D.get0 rfl fun h₈ D => ?_
    have e3 : foldL (ns.take (i + 1)) = (n * (foldL (ns.take i)).1 - (foldL (ns.take i)).2, (foldL (ns.take i)).1) := by
      rw [List.take_add_one, hn]; simp [foldL, foldStep]
    refine aio2_ (sn_ D fun h₉ tk _ D => sn_ D fun h₁₀ tk _ D => xn_ ?_)
    refine ⟨_, _, _, [], rfl, D.sub (.cons _ (List.Sublist.refl _)), rfl, ?_, ?_⟩
    · rw [e3]; exact ⟨u1, by walk_at "lk"⟩
    · rw [e3]; exact ⟨_, by walk_at "lk"⟩
  · rintro h₄ tk m₁ cs₁ _ ⟨rfl, ⟨u1, e1⟩, u2, e2⟩ D
    dsimp only
    have hlen : vs.toArray.size = ns.length := by simp [hi.length]
    rw [hlen, List.take_length] at e1 e2
    refine wpAny_execs_cons (wpAny_Return_some (List_ ?_))
    refine spliced_more (ln_ D e1 (spliced_more (ln_ D e2 (spliced_none ?_))))
    refine nl_ D (Nat.le_of_ble_eq_true rfl) fun h₅ r K _ D => ?_
    exact k _ _ r _ _ D.F.keep D.get0 (D.N _ (.head _)).2.2
end
end Mine

end
section
open PySem PySem.W PyProof.Rows PySem.Calls
namespace Mine
local macro_rules | `(tactic| walk_at "lk") => `(tactic| first | assumption | exact if_pos rfl | (refine (if_neg (by decide)).trans ?_; walk_at "lk") | rfl)
section
variable {w : World} {A : Around} {R : Result → Shared → Prop} {h₀ h : Heap} {g : Array GenState} {d : Drawn} {t : Nat} {os : OsState} {E : Value → Shared → Prop} {L a : Addr} {m : Str → Option Value} {cs : List (Addr × Obj)} {cn : Str} {sc : Scope} {ccd : Value} {env : Env}

theorem nst_ {u : Tok} {Q : Bool → Shared → Prop} {s : Shared} (B : Base w s.heap) (k : Q false s) : wpAny (model PP w) A (sharingNotTold u) Q E s := by
  unfold sharingNotTold
  refine wpAny_bind ((looks_nsIn B.X (ns := cStatics) (name := sharingNotToldKey) (r := none) (by kernel_rfl)).here ?_)
  exact wpAny_pure k
theorem is_ {y z : Str} {u v : Tok} {Q : Value → Shared → Prop} {s : Shared} (B : Base w s.heap) (hu : u ≠ 0) (hv : v ≠ 0) (huv : u ≠ v) (k : ∀ b : Bool, (b = true → y = z) → Q (.bool b) s) :
    wpAny (model PP w) A (compareOp .Is (.str y u) (.str z v)) Q E s := by
  show wpAny (model PP w) A (do return .bool (← isSame (.str y u) (.str z v))) Q E s
  refine wpAny_bind ?_
  show wpAny (model PP w) A (isSame.created (y == z) u v) _ E s
  unfold isSame.created
  refine wpAny_ite ?_
  rw [if_neg (by simp [hu, hv])]
  refine wpAny_ite ?_
  rw [if_neg (by simp [huv])]
  refine wpAny_ite ?_
  by_cases hyz : y = z
  · rw [if_neg (by simp [hyz])]
    refine wpAny_bind (nst_ B ?_)
    simp only [Bool.false_eq_true, if_false]
    refine wpAny_bind (nst_ B ?_)
    simp only [Bool.false_eq_true, if_false]
    exact wpAny_bind (wpAny_rule (wpAny_bind (wpAny_askSetting (wpAny_pure (wpAny_pure (k _ fun _ => hyz))))))
  · rw [if_pos (by simp [hyz])]
    exact wpAny_pure (wpAny_pure (k _ fun x => by cases x))
theorem iadd_ {i j u v} {Q : Value → Shared → Prop} (k : ∀ u tk, t ≤ tk → Q (.int (i + j) u) ⟨h, g, d, tk, os⟩) : wpAny (model PP w) A (inplaceOp .Add (.int i u) (.int j v)) Q E ⟨h, g, d, t, os⟩ := wpAny_iadd_int (k _ _ (Nat.le_succ _))
theorem lnl_ {x : Str} {v : Value} {Q : Value → Shared → Prop}
    (D : Led h₀ L h m cs) (hv : m x = some v) (k : Q v ⟨h, g, d, t, os⟩)
    (hk : sc.kind = .function := by rfl) (hl : (envOf cn sc L a ccd).kindOf x = some .local := by rfl) :
    wpAny (model PP w) A (loadName (envOf cn sc L a ccd) x) Q E ⟨h, g, d, t, os⟩ := ldn (s := ⟨h, g, d, t, os⟩) D.F hv k hk hl

/-- «i is b or i == b» over two texts -/
theorem isOrEq_ {x1 x2 : Str} {p1 p2 p3 p4 p5 p6 p7 : Pos} {whole : Sem Value} {y z : Str} {u v : Tok} {Q : Bool → Shared → Prop} (B : Base w h) (hu : u ≠ 0) (hv : v ≠ 0) (huv : u ≠ v) (D : Led h₀ L h m cs) (e1 : m x1 = some (.str y u)) (e2 : m x2 = some (.str z v))
    (k : Q (decide (y = z)) ⟨h, g, d, t, os⟩) (hk : sc.kind = .function := by rfl) (hl1 : (envOf cn sc L a ccd).kindOf x1 = some .local := by rfl) (hd1 : (x1 == ("__debug__" : Str)) = false := by decide)
    (hl2 : (envOf cn sc L a ccd).kindOf x2 = some .local := by rfl) (hd2 : (x2 == ("__debug__" : Str)) = false := by decide) :
    wpAny (model PP w) A (isTrue (.BoolOp .Or [.Compare (.Name x1 p1) [.Is] [.Name x2 p2] p3, .Compare (.Name x1 p4) [.Eq] [.Name x2 p5] p6] p7) (envOf cn sc L a ccd) whole) Q E ⟨h, g, d, t, os⟩ := by
  refine wpAny_isTrue_BoolOp (wpAny_allTrue_Or_cons (wpAny_isTrue_Compare1 ?_))
  refine ln_ D e1 (ln_ D e2 (is_ B hu hv huv fun b hb => wpAny_truthy_bool ?_) hk hl2 hd2) hk hl1 hd1
  cases b with
  | true =>
    have := hb rfl
    simp only [if_true]
    rw [decide_eq_true this] at k
    exact k
  | false =>
    simp only [Bool.false_eq_true, if_false]
    refine wpAny_allTrue_Or_cons (wpAny_isTrue_Compare1 ?_)
    refine ln_ D e1 (ln_ D e2 (PyProof.Rows.eq_str (wpAny_truthy_bool ?_)) hk hl2 hd2) hk hl1 hd1
    have q : (y == z) = decide (y = z) := by by_cases r : y = z <;> simp [r]
    rw [q]
    cases hq : decide (y = z) with
    | true => rw [hq] at k; simp only [if_true]; exact k
    | false => rw [hq] at k; simp only [Bool.false_eq_true, if_false]; exact wpAny_allTrue_Or_nil k

/-- how many of these signs -/
def cntC (x : List Nat) (c : Nat) : Int := (x.countP (· == c) : Nat)

set_option maxRecDepth 20000 in
theorem count_C {x : Str} {c : Nat} {tx tb : Nat} (B : Base w h) (hroom : A.depth < recursionLimit) (hA : A.handled = none) (hb : 0 < tb) (hbt : tb < t)
    (k : ∀ h' tk u, t ≤ tk → Kp h h' → R (.ok (.ret (.int (cntC x.cps.toList c) u))) ⟨h', g, d, tk, os⟩) :
    codeAny (model PP w) A (.call (.ref 66) ⟨[.str x tx, .str ⟨#[c]⟩ tb], []⟩) R ⟨h, g, d, t, os⟩ := by
  have ho := B.X 66 _ rfl
  refine ent_ B hroom ho (by kernel_rfl) rfl rfl fun h₁ tk hT D => ?_
  clear ho
  refine wpAny_execs_cons (asg_ (ci_ fun u1 tk hT1 => sn_ D fun h₂ tk hT2 D => ?_))
  refine wpAny_execs_cons (wpAny_For (ln_ D rfl ?_))
  refine fs_ hA (fun i m cs => cs = [] ∧ m "b" = some (.str ⟨#[c]⟩ tb) ∧ ∃ u, m "count" = some (.int (cntC (x.cps.toList.take i) c) u)) D ⟨rfl, rfl, _, rfl⟩ ?_ ?_
  · rintro I o₁ i c' u m₁ cs₁ h₄ tk hu hk hc ⟨rfl, eb, u1, e1⟩ D
    have hc' : x.cps.toList[i]? = some c' := by simpa using hc
    have key : ∀ b : Bool, b = decide (c' = c) → cntC (x.cps.toList.take (i + 1)) c = cntC (x.cps.toList.take i) c + if b then 1 else 0 := by
      intro b hb
      unfold cntC
      rw [List.take_add_one, hc']
      subst hb
      by_cases q : c' = c <;> simp [q]
    have hu0 : u ≠ 0 := by omega
    have hu1 : u ≠ tb := by omega
    refine wpAny_execs_cons (wpAny_If (isOrEq_ (D.base B) hu0 (Nat.ne_of_gt hb) hu1 D lk_eq (lk_ne eb) ?_))
    have hs : decide ((⟨#[c']⟩ : Str) = ⟨#[c]⟩) = decide (c' = c) := by simp
    rw [hs]
    by_cases q : c' = c
    · rw [decide_eq_true q]
      simp only [if_true]
      refine wpAny_execs_cons (wpAny_AugAssign_Name (lnl_ D (lk_ne e1) (ci_ fun u2 tk hT3 => iadd_ fun u3 tk hT4 => sn_ D fun h₅ tk hT5 D => xn_ (xn_ ?_))))
      refine ⟨_, _, _, [], rfl, D, rfl, by walk_at "lk", u3, ?_⟩
      rw [key true (by simp [q])]; walk_at "lk"
    · rw [decide_eq_false q]
      simp only [Bool.false_eq_true, if_false]
      refine xn_ (xn_ ⟨_, _, _, [], rfl, D, rfl, by walk_at "lk", u1, ?_⟩)
      rw [key false (by simp [q])]
      simp only [Bool.false_eq_true, if_false, Int.add_zero]
      walk_at "lk"
  · rintro h₄ tk m₁ cs₁ hT3 ⟨rfl, eb, u1, e1⟩ D
    dsimp only
    refine wpAny_execs_cons (wpAny_Return_some (ln_ D e1 ?_))
    rw [← Array.length_toList, List.take_length]
    exact k _ _ _ (by omega) D.F.keep
end
end Mine

end
section
open PySem PySem.W PyProof.Rows PySem.Calls
namespace Mine
local macro_rules | `(tactic| walk_at "lk") => `(tactic| first | assumption | exact if_pos rfl | (refine (if_neg (by decide)).trans ?_; walk_at "lk") | rfl)
/-- a text's iterator -/
abbrev IsSIt (o : Obj) (x : Str) (tx : Tok) (i : Nat) : Prop := o.cls = .type (strIterType x) ∧ o.data = .fields #[.str x tx, .int i 0]
/-- an enumerate over the iterator at it -/
abbrev enO (hand : Value) (it : Addr) (i : Int) (old : Value) : Obj := { cls := .type "enumerate", dict := none, data := .fields #[hand, .bool false, .ref it, rawInt i, .none, old], slots := #[] }

section
variable {w : World} {A : Around} {R : Result → Shared → Prop} {h₀ h : Heap} {g : Array GenState} {d : Drawn} {t : Nat} {os : OsState} {E : Value → Shared → Prop} {L a : Addr} {m : Str → Option Value} {cs : List (Addr × Obj)} {cn : Str} {sc : Scope} {ccd : Value} {env : Env}

theorem nof_ {it : Addr} {o : Obj} {x : Str} {tx : Tok} {i c : Nat} {Q : Value → Shared → Prop} (D : Led h₀ L h m ((it, o) :: cs)) (ho : IsSIt o x tx i) (hc : x.cps[i]? = some c)
    (k : ∀ h' o', IsSIt o' x tx (i + 1) → Led h₀ L h' m ((it, o') :: cs) → Q (.str ⟨#[c]⟩ t) ⟨h', g, d, t + 1, os⟩) : wpAny (model PP w) A (Builtin.SmallTypes.nextOf (.ref it)) Q E ⟨h, g, d, t, os⟩ := by
  obtain ⟨hcl, hda⟩ := ho
  unfold strIterType at hcl
  by_cases ha : (x.cps.all (· < 128)) = true
  · rw [if_pos ha] at hcl
    refine wpAny_nextOf_ascii_item (s := ⟨h, g, d, t, os⟩) (x := x) (t := tx) (i := i) ⟨o, D.get0, hcl, hda⟩ hc fun h' hit hs => ?_
    obtain ⟨o', ho', hc', hd'⟩ := hit
    exact k h' o' ⟨by rw [strIterType, if_pos ha]; exact hc', hd'⟩ (D.upd (fun b y hb e => hs.extBut b y hb e) ho')
  · rw [if_neg ha] at hcl
    refine wpAny_nextOf_wide_item (s := ⟨h, g, d, t, os⟩) (x := x) (t := tx) (i := i) ⟨o, D.get0, hcl, hda⟩ hc fun h' hit hs => ?_
    obtain ⟨o', ho', hc', hd'⟩ := hit
    exact k h' o' ⟨by rw [strIterType, if_neg ha]; exact hc', hd'⟩ (D.upd (fun b y hb e => hs.extBut b y hb e) ho')

/-- a field of the head cell set -/
theorem sf_ {r : Addr} {cls : Value} {vs : Array Value} {i : Nat} {x : Value} {Q : Unit → Shared → Prop} (D : Led h₀ L h m ((r, { cls := cls, dict := none, data := .fields vs, slots := #[] }) :: cs)) (hi : i < vs.size)
    (k : ∀ h', Led h₀ L h' m ((r, { cls := cls, dict := none, data := .fields (vs.setIfInBounds i x), slots := #[] }) :: cs) → Q () ⟨h', g, d, t, os⟩) : wpAny (model PP w) A (setField (.ref r) i x) Q E ⟨h, g, d, t, os⟩ :=
  wpAny_setField_rec (s := ⟨h, g, d, t, os⟩) D.get0 hi fun h' e' hs => k h' (D.upd (fun b y hb e => hs.extBut b y hb e) e')

theorem enx_ {e it : Addr} {o : Obj} {x : Str} {tx : Tok} {i c : Nat} {old : Value} {Q : Option Value → Shared → Prop} (D : Led h₀ L h m ((e, enO .none it i old) :: (it, o) :: cs)) (ho : IsSIt o x tx i) (hc : x.cps[i]? = some c)
    (k : ∀ h' o' T ti tk, t < tk → IsSIt o' x tx (i + 1) → Led h₀ L h' m ((T, tup [.int i ti, .str ⟨#[c]⟩ t]) :: (e, enO (rawInt T) it (i + 1 : Int) (.str ⟨#[c]⟩ t)) :: (it, o') :: cs) → Q (some (.ref T)) ⟨h', g, d, tk, os⟩) :
    wpAny (model PP w) A (pyNext (.ref e)) Q E ⟨h, g, d, t, os⟩ := by
  have hT : (⟨h, g, d, t, os⟩ : Shared).TypeIs (.ref e) "enumerate" := ⟨_, D.get0, rfl⟩
  unfold pyNext
  refine wpAny_bind (wpAny_attempt (wpAny_callSpecial?_slot (name := Str.ofString "__next__") hT F.slot_enumerate_next
    (wpAny_call_entry F.slot_enumerate_next hT F.entry_enumerate_next ?_ (F.args_enumerate_next_1 _))))
  show wpAny _ _ (field (.ref e) 2 >>= _) _ _ _
  refine wpAny_bind (wpAny_field D.get0 rfl (x := .ref it) rfl ?_)
  refine wpAny_bind (nof_ (D.perm (List.Perm.swap ..)) ho hc fun h₁ o' ho' D => ?_)
  replace D := D.perm (List.Perm.swap ..)
  show wpAny _ _ (field (.ref e) 3 >>= _) _ _ _
  refine wpAny_bind (wpAny_field D.get0 rfl (x := rawInt i) rfl ?_)
  show wpAny _ _ (field (.ref e) 4 >>= _) _ _ _
  refine wpAny_bind (wpAny_field D.get0 rfl (x := .none) rfl ?_)
  show wpAny _ _ (mkInt i >>= _) _ _ _
  refine wpAny_bind (wpAny_mkInt ?_)
  show wpAny _ _ (setField (.ref e) 3 (rawInt ((i : Int) + 1)) >>= _) _ _ _
  refine wpAny_bind (sf_ D (by simp) fun h₂ D => ?_)
  show wpAny _ _ (setField (.ref e) 4 .none >>= _) _ _ _
  refine wpAny_bind (sf_ D (by simp) fun h₃ D => ?_)
  show wpAny _ _ (newTuple [.int i (t + 1), .str ⟨#[c]⟩ t] >>= _) _ _ _
  refine wpAny_bind (nt_ D (Nat.le_of_ble_eq_true rfl) fun h₄ T K hT D => ?_)
  replace D := D.perm (List.Perm.swap ..)
  show wpAny _ _ (Builtin.SmallTypes.ownedTupleIsFree (.ref e) >>= _) _ _ _
  refine wpAny_bind ?_
  unfold Builtin.SmallTypes.ownedTupleIsFree
  refine wpAny_bind (wpAny_field D.get0 rfl (x := .none) rfl (wpAny_pure ?_))
  simp only [if_true]
  refine wpAny_bind (wpAny_rule ?_)
  refine wpAny_bind (wpAny_field D.get0 rfl (x := old) rfl ?_)
  refine wpAny_bind (sf_ D (by simp) fun h₅ D => ?_)
  show wpAny _ _ (Builtin.SmallTypes.ownedTupleHandOut (.ref e) (.ref T) >>= _) _ _ _
  refine wpAny_bind ?_
  unfold Builtin.SmallTypes.ownedTupleHandOut
  refine wpAny_bind (sf_ D (by simp) fun h₆ D => ?_)
  refine sf_ D (by simp) fun h₇ D => ?_
  refine wpAny_bind (wpAny_letGo (wpAny_pure ⟨_, rfl, wpAny_pure ?_⟩))
  exact k h₇ o' T (t + 1) _ (by omega) ho' (D.perm (List.Perm.swap ..))

/-- the head of a turn: the pair taken apart and bound -/
theorem ent2_ {e it : Addr} {o : Obj} {x : Str} {tx : Tok} {i c : Nat} {old : Value} {xi xv : Str} {pi pv pt : Pos} {kk : Nat} {Q : Unit → Shared → Prop} {X : Shared → Prop} (hA : A.handled = none) (D : Led h₀ L h m ((e, enO .none it i old) :: (it, o) :: cs)) (ho : IsSIt o x tx i) (hc : x.cps[i]? = some c)
    (k : ∀ h' o' ti tk, t < tk → IsSIt o' x tx (i + 1) → Led h₀ L h' (fun y => if y = xv then some (.str ⟨#[c]⟩ t) else if y = xi then some (.int i ti) else m y) ((e, enO .none it (i + 1 : Nat) (.str ⟨#[c]⟩ t)) :: (it, o') :: cs) → Q () ⟨h', g, d, tk, os⟩)
    (hk : sc.kind = .function := by rfl) (hxi : (envOf cn sc L a ccd).kindOf xi = some .local := by rfl) (hxv : (envOf cn sc L a ccd).kindOf xv = some .local := by rfl) :
    wpAny (model PP w) A (pyNext (.ref e)) (fun r s₁ => match r with
      | none => X s₁
      | some v => wpAny (model PP w) A (letOwnedTupleGo (.Tuple [.Name xi pi, .Name xv pv] kk pt) (.ref e) v) (fun _ s₂ => wpAny (model PP w) A (assign (.Tuple [.Name xi pi, .Name xv pv] kk pt) (envOf cn sc L a ccd) v) Q E s₂) E s₁) E ⟨h, g, d, t, os⟩ := by
  refine enx_ D ho hc fun h₁ o' T ti tk ht ho' D => ?_
  dsimp only
  replace D := D.perm (List.Perm.swap ..)
  refine wpAny_letOwnedTupleGo_enum (it := it) (i := (i + 1 : Int)) (item := .str ⟨#[c]⟩ t) D.get0 fun h₂ he hs => ?_
  replace D := D.upd (fun b y hb q => hs.extBut b y hb q) he
  replace D := D.perm (List.Perm.swap ..)
  refine wpAny_assign_Tuple hA (tup_is D.get0) rfl rfl fun h₃ hx => ?_
  replace D := D.keep fun b y q => hx b y (Nat.ne_of_lt (Heap.lt_size q)) q
  show wpAny _ A (do holding [.str ⟨#[c]⟩ t] (assign (.Name xi pi) _ (.int i ti)); do holding [] (assign (.Name xv pv) _ (.str ⟨#[c]⟩ t)); pure ()) _ _ _
  refine wpAny_bind (wpAny_holding (wpAny_assign_Name (sn_ D (fun h₄ tk2 ht2 D => ?_) hk hxi)))
  refine wpAny_bind (wpAny_holding (wpAny_assign_Name (sn_ D (fun h₅ tk3 ht3 D => wpAny_pure ?_) hk hxv)))
  exact k h₅ o' ti tk3 (by dsimp only at ht2; omega) ho' (D.sub (.cons _ (List.Sublist.refl _)))
/-- enumerate over a text -/
theorem enm_ {x : Str} {tx : Tok} {Q : Value → Shared → Prop} (D : Led h₀ L h m cs)
    (k : ∀ h' e it o, IsSIt o x tx 0 → Led h₀ L h' m ((e, enO .none it (0 : Nat) .none) :: (it, o) :: cs) → Q (.ref e) ⟨h', g, d, t, os⟩) :
    wpAny (model PP w) A (call (.type "enumerate") [.str x tx]) Q E ⟨h, g, d, t, os⟩ := by
  refine call_enumerate_str (s := ⟨h, g, d, t, os⟩) fun h' he hit hsz K => ?_
  obtain ⟨o, ho, hc, hd⟩ := hit
  have D1 : Led h₀ L h' m ((h.objs.size, o) :: cs) := D.new K ho (Heap.get?_none_of_le (Nat.le_refl _))
  refine k h' _ h.objs.size o ⟨hc, hd⟩ ⟨D1.F, ?_, ?_⟩
  · intro q hq
    rcases List.mem_cons.mp hq with rfl | hq
    · refine ⟨he, ?_, ?_⟩
      · exact Nat.ne_of_gt (Nat.lt_trans D.F.ns.lt (Nat.lt_succ_self _))
      · exact Heap.get?_none_of_le (Nat.le_trans D.base_lt (Nat.le_succ _))
    · exact D1.N q hq
  · rw [List.map_cons, List.nodup_cons]
    refine ⟨fun hm => ?_, D1.nd⟩
    obtain ⟨q, hq, e⟩ := List.mem_map.mp hm
    rcases List.mem_cons.mp hq with rfl | hq
    · exact Nat.ne_of_lt (Nat.lt_succ_self _) e
    · have := D.lt hq
      rw [e] at this
      exact absurd this (Nat.not_lt.mpr (Nat.le_succ _))

/-- the first place of a sign -/
def FirstAt (x : List Nat) (c p : Nat) : Prop := x[p]? = some c ∧ ∀ j, j < p → x[j]? ≠ some c

theorem b_enumerate : bootBuiltins "enumerate" = some (.type "enumerate") := by boot_fast
theorem n_enumerate : nsIn (KK w) mainGlobals "enumerate" = some none := by kernel_rfl

set_option maxRecDepth 20000 in
theorem index_C {x : Str} {c p : Nat} {tx tb : Nat} (B : Base w h) (hroom : A.depth < recursionLimit) (hA : A.handled = none) (hb : 0 < tb) (hbt : tb < t) (hp : FirstAt x.cps.toList c p)
    (k : ∀ h' tk u, t ≤ tk → Kp h h' → R (.ok (.ret (.int p u))) ⟨h', g, d, tk, os⟩) :
    codeAny (model PP w) A (.call (.ref 73) ⟨[.str x tx, .str ⟨#[c]⟩ tb], []⟩) R ⟨h, g, d, t, os⟩ := by
  have ho := B.X 73 _ rfl
  refine ent_ B hroom ho (by kernel_rfl) rfl rfl fun h₁ tk hT D => ?_
  clear ho
  refine wpAny_execs_cons (wpAny_For ?_)
  refine Call_ (bn_ D B n_enumerate b_enumerate (by decide) ?_)
  refine Pv.callWith_type1 (spliced_more (ln_ D rfl (spliced_none ?_)))
  refine enm_ D fun h₂ e it o ho D => ?_
  refine wpAny_pyIter_enum (s := ⟨h₂, g, d, tk, os⟩) D.get0 ?_
  have hpl : p < x.cps.toList.length := (List.getElem?_eq_some_iff.mp hp.1).1
  refine codeAny_forLoop_any (fun n s' => ∃ h' tk' m' i o' old, tk ≤ tk' ∧ s' = ⟨h', g, d, tk', os⟩ ∧ IsSIt o' x tx i ∧ Led h h.objs.size h' m' [(e, enO .none it (i : Nat) old), (it, o')] ∧ m' "b" = some (.str ⟨#[c]⟩ tb) ∧ i ≤ p ∧ n = p + 1 - i) ?_ (p + 1)
    ⟨h₂, tk, _, 0, o, .none, Nat.le_refl _, rfl, ho, D, rfl, Nat.zero_le _, rfl⟩
  rintro n s' ⟨h₃, tk₃, m₃, i, o₃, old, hT3, rfl, ho, D, eb, hip, rfl⟩
  have hil : i < x.cps.toList.length := Nat.lt_of_le_of_lt hip hpl
  have hc : x.cps[i]? = some x.cps.toList[i] := by simp [Array.getElem?_eq_getElem (show i < x.cps.size by simpa using hil)]
  have hc' : x.cps.toList[i]? = some x.cps.toList[i] := List.getElem?_eq_getElem hil
  refine ent2_ hA D ho hc fun h₄ o₄ ti tk₄ hT4 ho D => ?_
  have n1 : tk₃ ≠ 0 := by omega
  have n2 : tk₃ ≠ tb := by omega
  refine wpAny_execs_cons (wpAny_If (isOrEq_ (D.base B) (u := tk₃) (v := tb) (y := ⟨#[x.cps.toList[i]]⟩) (z := ⟨#[c]⟩) n1 (Nat.ne_of_gt hb) n2 D (by walk_at "lk") (by walk_at "lk") ?_))
  by_cases q : x.cps.toList[i] = c
  · have hi : i = p := by
      rcases Nat.lt_or_eq_of_le hip with hlt | he
      · exact absurd (hc'.trans (congrArg some q)) (hp.2 i hlt)
      · exact he
    rw [decide_eq_true (by rw [q])]
    simp only [if_true]
    refine wpAny_execs_cons (wpAny_Return_some (ln_ D (v := .int i ti) (by walk_at "lk") ?_))
    dsimp only
    rw [hi]
    exact k _ _ _ (by omega) D.F.keep
  · have hi : i < p := by
      rcases Nat.lt_or_eq_of_le hip with hlt | he
      · exact hlt
      · subst he; exact absurd (Option.some.inj (hc'.symm.trans hp.1)) q
    rw [decide_eq_false (by intro z; apply q; simpa using z)]
    simp only [Bool.false_eq_true, if_false]
    refine xn_ (xn_ ⟨p + 1 - (i + 1), by omega, h₄, tk₄, _, i + 1, o₄, _, by omega, rfl, ho, D, by walk_at "lk", hi, rfl⟩)
end
end Mine

end
section
open PySem PySem.W PyProof.Rows PySem.Calls
namespace Mine
local macro_rules | `(tactic| walk_at "lk") => `(tactic| first | assumption | exact if_pos rfl | (refine (if_neg (by decide)).trans ?_; walk_at "lk") | rfl)

theorem slice_to (x : Str) (k : Nat) (hk : k ≤ x.cps.toList.length) : Txt.slice x none (some (k : Int)) = ⟨(x.cps.toList.take k).toArray⟩ := by
  have hl : x.length = x.cps.toList.length := by simp [Str.length]
  have := eq_of_beq (slice_closes_toL (x := x) (j := (k : Int)) (by omega) (by rw [hl]; omega))
  rw [this]
  simp
theorem slice_fr (x : Str) (k : Nat) (hk : k ≤ x.cps.toList.length) : Txt.slice x (some (k : Int)) none = ⟨(x.cps.toList.drop k).toArray⟩ := by
  have hl : x.length = x.cps.toList.length := by simp [Str.length]
  have := eq_of_beq (slice_closes_fromL (x := x) (i := (k : Int)) (b := x.length) (by omega) (by rw [hl]; omega) rfl)
  rw [this]
  have e : ((x.length : Int) - (k : Int)).toNat = x.cps.toList.length - k := by rw [hl]; omega
  rw [e, Int.toNat_natCast, List.take_of_length_le (by simp)]

section
variable {w : World} {A : Around} {R : Result → Shared → Prop} {h₀ h : Heap} {g : Array GenState} {d : Drawn} {t : Nat} {os : OsState} {E : Value → Shared → Prop} {L a : Addr} {m : Str → Option Value} {cs : List (Addr × Obj)} {cn : Str} {sc : Scope} {ccd : Value} {env : Env}

/-- a for over range(n) -/
theorem fr_ {n : Nat} {u : Tok} {y : Str} {px : Pos} {body : List Stmt} {Q : Flow → Shared → Prop}
    (hA : A.handled = none) (Inv : Nat → (Str → Option Value) → List (Addr × Obj) → Prop) (D : Led h₀ L h m cs) (hn : (n : Int) < 2 ^ 62) (h0 : Inv 0 m cs)
    (turn : ∀ I o₁ i u m₁ cs₁ h' tk, t ≤ tk → i < n → Inv i m₁ cs₁ → Led h₀ L h' (fun z => if z = y then some (.int (i : Nat) u) else m₁ z) ((I, o₁) :: cs₁) →
      wpAny (model PP w) A (execs body (envOf cn sc L a ccd)) (fun f s₂ => match f with
        | .ret v => Q (.ret v) s₂
        | .brk => Q .next s₂
        | _ => ∃ h'' tk' m' cs', s₂ = ⟨h'', g, d, tk', os⟩ ∧ Led h₀ L h'' m' ((I, o₁) :: cs') ∧ Inv (i + 1) m' cs') NoE ⟨h', g, d, tk, os⟩)
    (done : ∀ h' tk m₁ cs₁, t ≤ tk → Inv n m₁ cs₁ → Led h₀ L h' m₁ cs₁ → Q .next ⟨h', g, d, tk, os⟩)
    (hk : sc.kind = .function := by rfl) (hx : (envOf cn sc L a ccd).kindOf y = some .local := by rfl) :
    wpAny (model PP w) A (call (.type "range") [.int (n : Nat) u]) (fun r s₁ => wpAny (model PP w) A (pyIter r) (fun it s₂ => codeAny (model PP w) A (.forLoop (.Name y px) it body [] (envOf cn sc L a ccd)) (fun r s' => match r with | .ok f => Q f s' | .error e => cameBackBy (model PP w) A (envOf cn sc L a ccd) NoE e s') s₂) NoE s₁) NoE ⟨h, g, d, t, os⟩ := by
  refine call_range_1 (s := ⟨h, g, d, t, os⟩) ?_
  have D1 := D.push { cls := .type "range", data := .fields #[.int 0 t, .int (n : Nat) u, .int 1 (t + 1)] }
  have hsm : Builtin.Range.small 0 (n : Int) 1 = true := small_one (by decide) (by decide) (by omega) hn
  refine wpAny_pyIter_range D1.get0 hsm ?_
  have hsz : Builtin.Range.rangeSize 0 (n : Int) 1 = (n : Int) := by rw [rangeSize_one]; split <;> omega
  generalize hh1 : h.push { cls := .type "range", data := .fields #[.int 0 t, .int (n : Nat) u, .int 1 (t + 1)] } = h1 at D1
  have D2 := (D1.sub (.cons _ (List.Sublist.refl _))).push { cls := .type "range_iterator", data := .fields #[rawInt 0, rawInt (Builtin.Range.rangeSize 0 (n : Int) 1), rawInt 1] }
  have hst : IsRangeIter (h1.push { cls := .type "range_iterator", data := .fields #[rawInt 0, rawInt (Builtin.Range.rangeSize 0 (n : Int) 1), rawInt 1] }) h1.objs.size (0 + ((0 : Nat) : Int) * 1) ((n : Int) - ((0 : Nat) : Int)) 1 := by
    rw [hsz]; simpa using Heap.get?_push_size h1 rfl
  refine loopW (h₀ := h₀) (s := ⟨h1.push { cls := .type "range_iterator", data := .fields #[rawInt 0, rawInt (Builtin.Range.rangeSize 0 (n : Int) 1), rawInt 1] }, g, d, t + 1 + 1, os⟩) (WalkK.of (Walks.range (prog := PP) (w := w) hA h1.objs.size 0 1 n)) hx
    (by show (sc.kind == .class || (sc.kind == .module && L != mainGlobals)) = false; rw [hk]; rfl) Inv (fun b hb hbI => absurd (List.mem_singleton.mp hb) hbI) ?_ D2 hst h0 (fun i h' st => ⟨_, st⟩)
    (fun i v u m₁ cs₁ o₁ h' tk hT hU hlt hP hI D' => ?_) (fun h' tk m₁ cs₁ hT hI D' => done h' tk m₁ cs₁ (by dsimp only at hT; omega) hI D')
  · intro hm
    exact absurd D1.F.ns.lt (by show ¬ (L < h1.objs.size); rw [show L = h1.objs.size from List.mem_singleton.mp hm]; exact Nat.lt_irrefl _)
  · obtain ⟨u, rfl⟩ := hP
    have e : (0 : Int) + (i : Int) * 1 = (i : Int) := by omega
    rw [e] at D'
    exact turn h1.objs.size o₁ i u m₁ cs₁ h' tk (by dsimp only at hT; omega) hlt hI D'
/-- x.append(arg), x a list of the call's own -/
theorem apx_ {x : Str} {l : Addr} {vs0 : List Value} {n0 : Nat} {arg : Expr} {p1 p2 p3 p4 : Pos} {pl : Sem Bool} {Q : Flow → Shared → Prop} (D : Led h₀ L h m cs) (hx : m x = some (.ref l)) (hl : h.get? l = some (lstN vs0 n0))
    (k : wpAny (model PP w) A (eval arg (envOf cn sc L a ccd)) (fun v s₁ => ∃ h' tk m' cs' vs n, s₁ = ⟨h', g, d, tk, os⟩ ∧ Led h₀ L h' m' ((l, lstN vs n) :: cs') ∧ vs.length ≤ sizeLine ∧
      ∀ h'', Led h₀ L h'' m' ((l, lstN (vs ++ [v]) (n + 1)) :: cs') → Q .next ⟨h'', g, d, tk, os⟩) E ⟨h, g, d, t, os⟩)
    (he : starEach [arg] (envOf cn sc L a ccd) = (false, eval arg (envOf cn sc L a ccd)) :: starEach [] (envOf cn sc L a ccd) := by rfl)
    (hk : sc.kind = .function := by rfl) (hxl : (envOf cn sc L a ccd).kindOf x = some .local := by rfl) (hd : (x == ("__debug__" : Str)) = false := by decide)
    (hme : eval (.Call (.Attribute (.Name x p1) "append" p2) [arg] [] p3) (envOf cn sc L a ccd) = (do
      let ov ← eval (.Name x p1) (envOf cn sc L a ccd)
      standAt p2.atName
      let (f, first) ← holding [ov] (getMethod ov "append" pl)
      callWith p3 f first (backTo p3 (starEach [arg] (envOf cn sc L a ccd))) []) := by rfl)
    (hi : interactive (envOf cn sc L a ccd) = false := by rfl) (hs : swapsWith (.Call (.Attribute (.Name x p1) "append" p2) [arg] [] p3) none p4.line (envOf cn sc L a ccd) = pure false := by rfl) :
    wpAny (model PP w) A (exec (.Expr (.Call (.Attribute (.Name x p1) "append" p2) [arg] [] p3) p4) (envOf cn sc L a ccd)) Q E ⟨h, g, d, t, os⟩ := by
  refine wpAny_Expr (MethodCall_ (pl := pl) ?_ hme) hi hs
  refine ln_ D hx ?_ hk hxl hd
  refine Calls.getMethod_list_append hl rfl rfl ?_
  refine callWith_method1 (spliced_more (wpAny_mono k (fun v s₁ h₁ => ?_) fun _ _ x => x) he) he
  obtain ⟨h', tk, m', cs', vs, n, rfl, D', hsz, kk⟩ := h₁
  refine spliced_none ?_
  refine append_at (s := ⟨h', g, d, tk, os⟩) (its := vs.toArray) (n := n) D'.get0 (fun h'' hs e => ?_) (by simpa using hsz)
  refine kk h'' (D'.upd (fun b y hb q => hs.extBut b y hb q) (e.trans ?_))
  simp [lstN]
end
end Mine

end
section
open PySem PySem.W PyProof.Rows PySem.Calls
namespace Mine
local macro_rules | `(tactic| walk_at "lk") => `(tactic| first | assumption | exact if_pos rfl | (refine (if_neg (by decide)).trans ?_; walk_at "lk") | rfl)

/-- the signs of rows of dots -/
def rowsStr (ds : List Nat) : List Nat := ds.flatMap fun k => List.replicate k 46 ++ [13, 10]
theorem rowsStr_cons (k : Nat) (ds : List Nat) : rowsStr (k :: ds) = List.replicate k 46 ++ 13 :: 10 :: rowsStr ds := by simp [rowsStr]
theorem rowsStr_len (ds : List Nat) : (rowsStr ds).length = ds.sum + 2 * ds.length := by
  induction ds with
  | nil => rfl
  | cons k ds ih => rw [rowsStr_cons]; simp [ih]; omega
theorem cnt_rows (ds : List Nat) : cntC (rowsStr ds) 10 = ds.length := by
  unfold cntC
  induction ds with
  | nil => rfl
  | cons k ds ih =>
    rw [rowsStr_cons, List.countP_append, List.countP_cons, List.countP_cons]
    have : List.countP (fun x => x == 10) (List.replicate k 46) = 0 := by
      rw [List.countP_eq_zero]; intro a ha; rw [(List.mem_replicate.mp ha).2]; decide
    rw [this]
    simp
    omega
theorem first_rows (k : Nat) (ds : List Nat) : FirstAt (rowsStr (k :: ds)) 13 k := by
  rw [rowsStr_cons]
  refine ⟨by simp [List.getElem?_append_right], fun j hj => ?_⟩
  rw [List.getElem?_append_left (by simpa using hj)]
  simp [List.getElem?_replicate, hj]
theorem cnt_dots (k : Nat) : cntC (List.replicate k 46) 46 = k := by simp [cntC, List.countP_replicate]

theorem s_nl : Str.ofString "\n" = ⟨#[10]⟩ := by decide +kernel
theorem s_cr : Str.ofString "\x0d" = ⟨#[13]⟩ := by decide +kernel
theorem s_dot : Str.ofString "." = ⟨#[46]⟩ := by decide +kernel

section
variable {w : World} {A : Around} {R : Result → Shared → Prop} {h₀ h : Heap} {g : Array GenState} {d : Drawn} {t : Nat} {os : OsState} {E : Value → Shared → Prop} {L a : Addr} {m : Str → Option Value} {cs : List (Addr × Obj)} {cn : Str} {sc : Scope} {ccd : Value} {env : Env}

theorem ep0_ {Q : Value → Shared → Prop} {s : Shared} (k : Q .none s) : wpAny (model PP w) A (evalPart none env) Q E s := wpAny_pure k
theorem ep1_ {e : Expr} {Q : Value → Shared → Prop} {s : Shared} (k : wpAny (model PP w) A (eval e env) Q E s) : wpAny (model PP w) A (evalPart (some e) env) Q E s := k
theorem b_range : bootBuiltins "range" = some (.type "range") := by boot_fast
theorem n_range : nsIn (KK w) mainGlobals "range" = some none := by kernel_rfl
theorem g_countOf : nsIn (KK w) mainGlobals "countOf" = some (some (.ref 66)) := by kernel_rfl
theorem g_indexOf : nsIn (KK w) mainGlobals "indexOf" = some (some (.ref 73)) := by kernel_rfl
theorem k_countOf : keepIn (KK w) (.ref 66) = true := by kernel_rfl
theorem k_indexOf : keepIn (KK w) (.ref 73) = true := by kernel_rfl

theorem str_eq {x : Str} {l : List Nat} (h : x.cps.toList = l) : x = ⟨l.toArray⟩ := by
  obtain ⟨c⟩ := x
  simp at h
  subst h
  rfl

set_option maxRecDepth 20000 in
theorem rows_C {x : Str} {ds : List Nat} {tx : Tok} (B : Base w h) (hroom : A.depth + 1 < recursionLimit) (hA : A.handled = none) (ht : 0 < t) (hx : x.cps.toList = rowsStr ds) (hlen : (rowsStr ds).length ≤ sizeLine)
    (k : ∀ h' tk r vs n, t ≤ tk → Kp h h' → h'.get? r = some (lstN vs n) → IntsAre vs (ds.map Int.ofNat) → h.get? r = none → R (.ok (.ret (.ref r))) ⟨h', g, d, tk, os⟩) :
    codeAny (model PP w) A (.call (.ref 102) ⟨[.str x tx], []⟩) R ⟨h, g, d, t, os⟩ := by
  have ho := B.X 102 _ rfl
  refine ent_ B (by omega) ho (by kernel_rfl) rfl rfl fun h₁ tk hT D => ?_
  clear ho
  refine wpAny_execs_cons (asg_ (List_ (spliced_none (nl_ D (by decide) fun h₂ l K _ D => sn_ D fun h₃ tk1 hT1 D => ?_))))
  refine wpAny_execs_cons (asg_ (ln_ D (by walk_at "lk") (sn_ D fun h₄ tk2 hT2 D => ?_)))
  refine wpAny_execs_cons (wpAny_For ?_)
  refine Call_ (bn_ D B n_range b_range (by decide) ?_)
  refine Pv.callWith_type1 (spliced_more (Call_ (gl_ D B g_countOf ?_)))
  refine cw_ B k_countOf (spliced_more (ln_ D (by walk_at "lk") (spliced_more (cs_ fun u tk3 hu hu' => spliced_none ⟨D.base B, ca_ ?_⟩))))
  rw [s_nl]
  refine count_C (c := 10) (D.base B) (by show A.depth + 1 < _; omega) hA (by omega) hu' fun h₅ tk4 u4 hT4 K => ?_
  replace D := D.keep K
  dsimp only
  rw [hx, cnt_rows]
  refine spliced_none ?_
  have hsl : sizeLine = 16777216 := by decide
  have hdl : (ds.length : Int) < 2 ^ 62 := by
    have := rowsStr_len ds
    omega
  refine fr_ hA (fun i m cs => ∃ vs n u, cs = [(l, lstN vs n)] ∧ m "rows" = some (.ref l) ∧ m "left" = some (.str ⟨(rowsStr (ds.drop i)).toArray⟩ u) ∧ IntsAre vs ((ds.take i).map Int.ofNat)) D hdl
    ⟨[], 0, tx, rfl, by walk_at "lk", ?_, .nil⟩ ?_ ?_
  · rw [List.drop_zero, ← hx]
    walk_at "lk"
  · rintro I o₁ i u m₁ cs₁ h₆ tk6 hT6 hi ⟨vs, n, ul, rfl, er, el, hI⟩ D
    obtain ⟨k0, hk0⟩ : ∃ k0, ds[i]? = some k0 := ⟨ds[i], List.getElem?_eq_getElem hi⟩
    have hdr : ds.drop i = k0 :: ds.drop (i + 1) := by
      rw [List.drop_eq_getElem_cons hi]
      rw [List.getElem?_eq_getElem hi] at hk0
      rw [Option.some.inj hk0]
    rw [hdr] at el
    have hfull : rowsStr (k0 :: ds.drop (i + 1)) = List.replicate k0 46 ++ 13 :: 10 :: rowsStr (ds.drop (i + 1)) := rowsStr_cons _ _
    have hle : (rowsStr (k0 :: ds.drop (i + 1))).length ≤ (rowsStr ds).length := by
      rw [← hdr, rowsStr_len, rowsStr_len]
      have e1 : (ds.take i).sum + (ds.drop i).sum = ds.sum := by rw [← List.sum_append, List.take_append_drop]
      have e2 := List.length_drop (l := ds) (i := i)
      omega
    have hL : (⟨(rowsStr (k0 :: ds.drop (i + 1))).toArray⟩ : Str).length ≤ sizeLine := by simp only [Str.length, List.size_toArray]; omega
    -- place
    refine wpAny_execs_cons (asg_ (Call_ (gl_ D B g_indexOf ?_)))
    refine cw_ B k_indexOf (spliced_more (ln_ D (lk_ne el) (spliced_more (cs_ fun u7 tk7 hu7 hu7' => spliced_none ⟨D.base B, ca_ ?_⟩))))
    rw [s_cr]
    refine index_C (c := 13) (p := k0) (D.base B) (by show A.depth + 1 < _; omega) hA (by omega) hu7' (first_rows _ _) fun h₇ tk8 u8 hT8 K => ?_
    replace D := D.keep K
    dsimp only
    refine sn_ D fun h₈ tk9 hT9 D => ?_
    -- rows.append
    refine wpAny_execs_cons (apx_ (n0 := n) (vs0 := vs) D (by walk_at "lk") (D.get (.tail _ (.head _))) ?_)
    refine Call_ (gl_ D B g_countOf ?_)
    refine cw_ B k_countOf (spliced_more ?_)
    refine Subscript_ (ln_ D (v := .str ⟨(rowsStr (k0 :: ds.drop (i + 1))).toArray⟩ ul) (by walk_at "lk") ?_)
    refine wpAny_Slice (ep0_ (ep1_ (ln_ D (v := .int (k0 : Nat) u8) (by walk_at "lk") (ep0_ ?_))))
    refine wpAny_with_toks (n := tk9) (Nat.le_refl _) (slice_strN_ns (s := ⟨h₈, g, d, tk9, os⟩) (hsz := hL) D.F D.N fun h₉ tu tk10 F9 N9 hT10 => ?_)
    have D : Led h h.objs.size h₉ _ _ := ⟨F9, N9, D.nd⟩
    replace hT10 : tk9 ≤ tk10 := hT10
    dsimp only
    refine spliced_more (cs_ fun u11 tk11 hu11 hu11' => spliced_none ⟨D.base B, ca_ ?_⟩)
    rw [s_dot]
    refine count_C (c := 46) (D.base B) (by show A.depth + 1 < _; omega) hA (by omega) hu11' fun h₁₂ tk12 u12 hT12 K => ?_
    replace D := D.keep K
    dsimp only
    have hsl1 : (Txt.slice ⟨(rowsStr (k0 :: ds.drop (i + 1))).toArray⟩ none (some (k0 : Nat))).cps.toList = List.replicate k0 46 := by
      rw [slice_to _ _ (by rw [hfull]; simp), hfull]
      simp
    rw [hsl1, cnt_dots]
    refine ⟨_, _, _, _, vs, n, rfl, D.perm (List.Perm.swap ..), ?_, fun h₁₃ D => ?_⟩
    · have := hI.length
      simp at this
      have e2 := rowsStr_len ds
      omega
    replace D := D.perm (List.Perm.swap ..)
    -- left
    refine wpAny_execs_cons (asg_ (Subscript_ (ln_ D (v := .str ⟨(rowsStr (k0 :: ds.drop (i + 1))).toArray⟩ ul) (by walk_at "lk") ?_)))
    refine wpAny_Slice (ep1_ (wpAny_BinOp (ln_ D (v := .int (k0 : Nat) u8) (by walk_at "lk") (ci_ fun u14 tk14 hT14 => add_ fun u15 tk15 hT15 => ep0_ (ep0_ ?_)))))
    refine wpAny_with_toks (n := tk15) (Nat.le_refl _) (slice_strN_sn (s := ⟨h₁₃, g, d, tk15, os⟩) (hsz := hL) D.F D.N fun h₁₆ tu tk16 F16 N16 hT16 => ?_)
    have D : Led h h.objs.size h₁₆ _ _ := ⟨F16, N16, D.nd⟩
    replace hT16 : tk15 ≤ tk16 := hT16
    dsimp only
    refine sn_ D fun h₁₇ tk17 hT17 D => xn_ ?_
    refine ⟨_, _, _, _, rfl, D, _, _, tu, rfl, by walk_at "lk", ?_, ?_⟩
    · have e3 : (k0 : Int) + 2 = ((k0 + 2 : Nat) : Int) := by omega
      have hsl2 : Txt.slice ⟨(rowsStr (k0 :: ds.drop (i + 1))).toArray⟩ (some ((k0 : Int) + 2)) none = ⟨(rowsStr (ds.drop (i + 1))).toArray⟩ := by
        rw [e3, slice_fr _ _ (by rw [hfull]; simp), hfull]
        simp [List.drop_append]
      rw [hsl2]
      walk_at "lk"
    · rw [List.take_add_one, hk0]
      simpa using hI.append (.cons (k0 : Int) u12 .nil)
  · rintro h₆ tk6 m₁ cs₁ hT6 ⟨vs, n, ul, rfl, er, el, hI⟩ D
    dsimp only
    refine wpAny_execs_cons (wpAny_Return_some (ln_ D er ?_))
    rw [List.take_length] at hI
    exact k _ _ l vs n (by omega) D.F.keep D.get0 hI (D.N _ (.head _)).2.2
end
end Mine

end
section
namespace Mine
open PySem PySem.Sre
def code1 : Array Nat := #[14, 4, 0, 1, 1, 6, 1, 16, 46, 1]
def code2 : Array Nat := #[14, 9, 4, 1, 2, 16, 10, 16, 13, 0, 7, 7, 16, 13, 16, 10, 15, 18, 5, 16, 10, 15, 13, 11, 16, 13, 5, 5, 0, 16, 10, 1, 15, 2, 0, 1]

/-- k steps -/
def steps : Nat → M → M
  | 0, m => m
  | k + 1, m => steps k m.step
theorem steps_add (a b : Nat) (m : M) : steps (a + b) m = steps b (steps a m) := by
  induction a generalizing m with
  | zero => rw [Nat.zero_add]; rfl
  | succ a ih => rw [Nat.add_right_comm]; exact ih _
theorem step_done {m : M} (h : m.outcome.isSome = true) : m.step = m := by unfold M.step; rw [if_pos h]
theorem steps_done {m : M} (h : m.outcome.isSome = true) (k : Nat) : steps k m = m := by
  induction k with
  | zero => rfl
  | succ k ih => show steps k m.step = m; rw [step_done h]; exact ih
theorem runFor_steps (k : Nat) (m : M) : m.runFor k = steps k m := by
  induction k generalizing m with
  | zero => rfl
  | succ k ih =>
    show (if m.outcome.isSome = true then m else (m.step).runFor k) = steps k m.step
    by_cases h : m.outcome.isSome = true
    · rw [if_pos h, step_done h, steps_done h]
    · rw [if_neg h, ih]

/-- an attempt of the first pattern at s -/
def st1 (text : Array Nat) (s : Nat) (first : Bool) (seen : Seen) : M :=
  { code := code1, text, lim := text.size, start := s, lastStart := text.size, pc := 5, pos := s, handed := s, outermost := first, marks := #[], lastmark := -1, lastindex := -1, frames := [{ wait := .nextStart, pc := 5, pos := s, outermost := first }], weight := 1, seen }

theorem step1 {m : M} (h : m.outcome = none) (ha : m.answer = none) (hp : m.pc < m.code.size) : m.step = m.exec := by
  unfold M.step
  rw [h]; simp only [Option.isSome_none, Bool.false_eq_true, if_false]
  rw [ha]
  simp only [if_pos hp]

/-- the AT BEGINNING_LINE -/
theorem exec_at {m : M} (h0 : m.word 0 = 6) (h1 : m.word 1 = 1) : ∃ sn, m.exec = if m.pos = 0 ∨ m.text.getD (m.pos - 1) 0 = 10 then { m with seen := sn, pc := m.pc + 2 } else { m with seen := sn }.say false := by
  refine ⟨(m.seen.add 6).add 44, ?_⟩
  have e : m.exec = (let m := { m with seen := m.seen.add (m.word 0) }; let m' := { m with seen := m.seen.add (43 + m.word 1) }
     match m.isAt (m.word 1) with
     | .error why => m.stick why
     | .ok yes => if yes then { m' with pc := m'.pc + 2 } else m'.say false) := by
    unfold M.exec
    rw [h0]; rfl
  rw [e]
  have i1 : ∀ m' : M, m'.isAt 1 = .ok (m'.pos == 0 || m'.text.getD (m'.pos - 1) 0 == 10) := fun _ => rfl
  have w1 : ∀ sn : Seen, M.word { m with seen := sn } 1 = 1 := fun _ => h1
  simp only [w1, i1, h0, Bool.or_eq_true, beq_iff_eq]
theorem exec_lit {m : M} (h0 : m.word 0 = 16) : ∃ sn, m.exec = if m.pos ≥ m.lim then { m with seen := sn }.say false else
    if m.text.getD m.pos 0 = m.word 1 then { m with seen := sn, pc := m.pc + 2, pos := m.pos + 1 } else { m with seen := sn }.say false := by
  have h0' : m.code.getD m.pc 0 = 16 := h0
  refine ⟨m.seen.add 16, ?_⟩
  have e : m.exec = (let m := { m with seen := m.seen.add (m.word 0) }
     if m.pos ≥ m.lim then m.say false else
     match accepts m.code m.pc (m.text.getD m.pos 0) m.seen with
     | .error why => m.stick why
     | .ok (false, seen) => { m with seen }.say false
     | .ok (true, seen) => { m with seen, pc := m.pc + itemWidth m.code m.pc, pos := m.pos + 1 }) := by
    unfold M.exec
    rw [h0]; rfl
  rw [e]
  have a1 : ∀ c seen, accepts m.code m.pc c seen = .ok (c == m.word 1, seen) := fun c seen => by
    unfold accepts; rw [h0']; rfl
  have a2 : itemWidth m.code m.pc = 2 := by unfold itemWidth; rw [h0']; rfl
  simp only [h0, a1, a2]
  by_cases q : m.text.getD m.pos 0 = m.word 1
  · simp only [q, beq_self_eq_true, if_true]
  · have : (m.text.getD m.pos 0 == m.word 1) = false := by simpa using q
    simp only [this, if_neg q]
theorem exec_succ {m : M} (h0 : m.word 0 = 1) (hw : m.wholeText = false) (hm : m.mustAdvance = false) : ∃ sn, m.exec = { m with seen := sn, handed := m.pos }.say true := by
  refine ⟨m.seen.add 1, ?_⟩
  unfold M.exec
  rw [h0]
  simp [ops, hw, hm]

def Ev (n : Nat) (m : M) (Q : M → Prop) : Prop := ∃ k, k ≤ n ∧ Q (steps k m)
section
variable {n : Nat} {m : M} {Q : M → Prop}
theorem ev_done (h : Q m) : Ev n m Q := ⟨0, Nat.zero_le _, h⟩
theorem ev_step (h : Ev n m.step Q) : Ev (n + 1) m Q := let ⟨k, a, b⟩ := h; ⟨k + 1, Nat.succ_le_succ a, b⟩
theorem ev_le {n' : Nat} (h : Ev n m Q) (hn : n ≤ n') : Ev n' m Q := let ⟨k, a, b⟩ := h; ⟨k, Nat.le_trans a hn, b⟩
theorem ev_mono {Q' : M → Prop} (h : Ev n m Q) (hq : ∀ m, Q m → Q' m) : Ev n m Q' := let ⟨k, a, b⟩ := h; ⟨k, a, hq _ b⟩
theorem ev_bind {n' : Nat} {Q' : M → Prop} (h : Ev n m Q) (hq : ∀ m, Q m → Ev n' m Q') : Ev (n + n') m Q' := by
  obtain ⟨k, a, b⟩ := h
  obtain ⟨k', a', b'⟩ := hq _ b
  exact ⟨k + k', Nat.add_le_add a a', by rw [steps_add]; exact b'⟩
theorem ev_x (h : m.outcome = none) (ha : m.answer = none) (hp : m.pc < m.code.size) (k : Ev n m.exec Q) : Ev (n + 1) m Q := ev_step (by rw [step1 h ha hp]; exact k)
theorem ev_at1 (h0 : m.word 0 = 6) (h1 : m.word 1 = 1) (h : m.outcome = none) (ha : m.answer = none) (hp : m.pc < m.code.size)
    (hc : m.pos = 0 ∨ m.text.getD (m.pos - 1) 0 = 10) (k : ∀ sn, Ev n { m with seen := sn, pc := m.pc + 2 } Q) : Ev (n + 1) m Q := by
  obtain ⟨sn, e⟩ := exec_at h0 h1
  refine ev_x h ha hp ?_
  rw [e, if_pos hc]; exact k sn
theorem ev_at0 (h0 : m.word 0 = 6) (h1 : m.word 1 = 1) (h : m.outcome = none) (ha : m.answer = none) (hp : m.pc < m.code.size)
    (hc : ¬ (m.pos = 0 ∨ m.text.getD (m.pos - 1) 0 = 10)) (k : ∀ sn, Ev n { m with seen := sn, answer := some false } Q) : Ev (n + 1) m Q := by
  obtain ⟨sn, e⟩ := exec_at h0 h1
  refine ev_x h ha hp ?_
  rw [e, if_neg hc]; exact k sn
theorem ev_lit1 (h0 : m.word 0 = 16) (h : m.outcome = none) (ha : m.answer = none) (hp : m.pc < m.code.size)
    (hl : m.pos < m.lim) (hc : m.text.getD m.pos 0 = m.word 1) (k : ∀ sn, Ev n { m with seen := sn, pc := m.pc + 2, pos := m.pos + 1 } Q) : Ev (n + 1) m Q := by
  obtain ⟨sn, e⟩ := exec_lit h0
  refine ev_x h ha hp ?_
  rw [e, if_neg (by omega), if_pos hc]; exact k sn
theorem ev_lit0 (h0 : m.word 0 = 16) (h : m.outcome = none) (ha : m.answer = none) (hp : m.pc < m.code.size)
    (hc : m.pos ≥ m.lim ∨ m.text.getD m.pos 0 ≠ m.word 1) (k : ∀ sn, Ev n { m with seen := sn, answer := some false } Q) : Ev (n + 1) m Q := by
  obtain ⟨sn, e⟩ := exec_lit h0
  refine ev_x h ha hp ?_
  rw [e]
  by_cases q : m.pos ≥ m.lim
  · rw [if_pos q]; exact k sn
  · rw [if_neg q, if_neg (hc.resolve_left q)]; exact k sn
theorem ev_succ (h0 : m.word 0 = 1) (h : m.outcome = none) (ha : m.answer = none) (hp : m.pc < m.code.size) (hw : m.wholeText = false) (hm : m.mustAdvance = false)
    (k : ∀ sn, Ev n { m with seen := sn, handed := m.pos, answer := some true } Q) : Ev (n + 1) m Q := by
  obtain ⟨sn, e⟩ := exec_succ h0 hw hm
  refine ev_x h ha hp ?_
  rw [e]; exact k sn
theorem ev_res {yes : Bool} {f : Sre.Frame} {rest : List Sre.Frame} (h : m.outcome = none) (ha : m.answer = some yes) (hf : m.frames = f :: rest)
    (k : Ev n (M.resume { m with answer := none, frames := rest, weight := m.weight - (1 + f.kept.marks.size), pc := f.pc, pos := f.pos, outermost := f.outermost } f yes) Q) : Ev (n + 1) m Q := by
  refine ev_step ?_
  cases m
  dsimp only at h ha hf
  subst h ha hf
  exact k
theorem ev_end {yes : Bool} (h : m.outcome = none) (ha : m.answer = some yes) (hf : m.frames = [])
    (k : Ev n { m with outcome := some (if yes then .matched else .failed) } Q) : Ev (n + 1) m Q := by
  refine ev_step ?_
  cases m
  dsimp only at h ha hf
  subst h ha hf
  exact k
theorem ev_jump (h0 : m.word 0 = 15) (h : m.outcome = none) (ha : m.answer = none) (hp : m.pc < m.code.size)
    (k : ∀ sn, Ev n { m with seen := sn, pc := m.pc + 1 + m.word 1 } Q) : Ev (n + 1) m Q := by
  refine ev_x h ha hp ?_
  have e : m.exec = { m with seen := m.seen.add (m.word 0), pc := m.pc + 1 + m.word 1 } := by
    unfold M.exec; rw [h0]; rfl
  rw [e]; exact k _
theorem ev_branch (h0 : m.word 0 = 7) (h : m.outcome = none) (ha : m.answer = none) (hp : m.pc < m.code.size)
    (k : ∀ sn, Ev n (M.alternative { m with seen := sn } (m.pc + 1) (M.keep m m.inner.isSome)) Q) : Ev (n + 1) m Q := by
  refine ev_x h ha hp ?_
  have e : m.exec = M.alternative { m with seen := m.seen.add (m.word 0) } (m.pc + 1) (M.keep m m.inner.isSome) := by
    unfold M.exec; rw [h0]; rfl
  rw [e]; exact k _
theorem ev_not (h0 : m.word 0 = 5) (h2 : m.word 2 = 0) (h : m.outcome = none) (ha : m.answer = none) (hp : m.pc < m.code.size)
    (k : ∀ sn, Ev n (M.attempt { m with seen := sn } { m.frame .lookNot with kept := m.keep m.inner.isSome } (m.pc + 3) m.pos false) Q) : Ev (n + 1) m Q := by
  refine ev_x h ha hp ?_
  have e : m.exec = M.attempt { m with seen := m.seen.add (m.word 0) } { m.frame .lookNot with kept := m.keep m.inner.isSome } (m.pc + 3) m.pos false := by
    have w2 : ∀ sn : Seen, M.word { m with seen := sn } 2 = 0 := fun _ => h2
    unfold M.exec; rw [h0]
    show (if m.pos < M.word { m with seen := m.seen.add 5 } 2 then _ else _) = _
    rw [w2, if_neg (Nat.not_lt_zero _)]
    rfl
  rw [e]; exact k _
end

/-- what the search must leave -/
def Res (text : Array Nat) (repl : List Nat) (S : Nat → List Nat) (p : Nat) (m : M) : Prop :=
  (m.outcome = some .failed ∧ S p = text.toList.drop p) ∨
  (m.outcome = some .matched ∧ p ≤ m.start ∧ m.start < m.handed ∧ m.handed ≤ text.size ∧ S p = (text.toList.drop p).take (m.start - p) ++ (repl ++ S m.handed))

def sub1 : Bool → List Nat → List Nat
  | _, [] => []
  | b, c :: r => if b = true ∧ c = 46 then 46 :: 46 :: sub1 false r else c :: sub1 (c == 10) r
def bol (text : Array Nat) (p : Nat) : Bool := p == 0 || text.getD (p - 1) 0 == 10
def S1 (text : Array Nat) (p : Nat) : List Nat := sub1 (bol text p) (text.toList.drop p)

theorem drop_at {text : Array Nat} {p : Nat} (h : p < text.size) : text.toList.drop p = text.getD p 0 :: text.toList.drop (p + 1) := by
  rw [List.drop_eq_getElem_cons (by simpa using h)]
  simp [h]
theorem bol_s {text : Array Nat} {p : Nat} : bol text (p + 1) = (text.getD p 0 == 10) := by
  unfold bol; simp
theorem S1_at {text : Array Nat} {p : Nat} (h : p < text.size) : S1 text p = if bol text p = true ∧ text.getD p 0 = 46 then 46 :: 46 :: S1 text (p + 1) else text.getD p 0 :: S1 text (p + 1) := by
  unfold S1
  rw [drop_at h, bol_s]
  show (if _ then _ else _) = _
  by_cases q : bol text p = true ∧ text.getD p 0 = 46
  · rw [if_pos q, if_pos q, q.2]; rfl
  · rw [if_neg q, if_neg q]

theorem Res.prev {text : Array Nat} {repl : List Nat} {S : Nat → List Nat} {p : Nat} {m : M} (h : p < text.size) (hS : S p = text.getD p 0 :: S (p + 1)) (r : Res text repl S (p + 1) m) : Res text repl S p m := by
  rcases r with ⟨a, b⟩ | ⟨a, b, c, d, e⟩
  · exact .inl ⟨a, by rw [hS, b, drop_at h]⟩
  · refine .inr ⟨a, by omega, c, d, ?_⟩
    rw [hS, e, drop_at h, show m.start - p = (m.start - (p + 1)) + 1 by omega, List.take_succ_cons, List.cons_append]

end Mine

end
section
namespace Mine
open PySem PySem.Sre
theorem run1 (text : Array Nat) : ∀ (n p : Nat), text.size - p = n → p ≤ text.size → ∀ first seen, Ev (4 * n + 4) (st1 text p first seen) (Res text [46, 46] (S1 text) p) := by
  intro n
  induction n with
  | zero =>
    intro p hn hp first seen
    have hp' : p = text.size := by omega
    have fin : ∀ m, m.outcome = some .failed → Res text [46, 46] (S1 text) p m := fun m e => .inl ⟨e, by
      unfold S1; rw [List.drop_eq_nil_of_le (by simp [hp'])]; unfold sub1; rfl⟩
    have nol : ¬ p < text.size := by omega
    by_cases hb : p = 0 ∨ text.getD (p - 1) 0 = 10
    · refine ev_at1 rfl rfl rfl rfl (by show 5 < 10; decide) hb fun sn => ?_
      refine ev_lit0 rfl rfl rfl (by show 7 < 10; decide) (.inl (by show p ≥ text.size; omega)) fun sn => ?_
      refine ev_res rfl rfl rfl ?_
      simp only [M.resume, st1, nol, if_false, M.say, Bool.false_eq_true]
      exact ev_end rfl rfl rfl (ev_done (fin _ rfl))
    · refine ev_le (n := 3) ?_ (by omega)
      refine ev_at0 rfl rfl rfl rfl (by show 5 < 10; decide) hb fun sn => ?_
      refine ev_res rfl rfl rfl ?_
      simp only [M.resume, st1, nol, if_false, M.say, Bool.false_eq_true]
      exact ev_end rfl rfl rfl (ev_done (fin _ rfl))
  | succ n ih =>
    intro p hn hp first seen
    have hlt : p < text.size := by omega
    have IH := fun seen => ih (p + 1) (by omega) (by omega) false seen
    by_cases hb : p = 0 ∨ text.getD (p - 1) 0 = 10
    · have hb' : bol text p = true := by unfold bol; simpa using hb
      by_cases hc : text.getD p 0 = 46
      · refine ev_le (n := 5) ?_ (by omega)
        refine ev_at1 rfl rfl rfl rfl (by show 5 < 10; decide) hb fun sn => ?_
        refine ev_lit1 rfl rfl rfl (by show 7 < 10; decide) hlt hc fun sn => ?_
        refine ev_succ rfl rfl rfl (by show 9 < 10; decide) rfl rfl fun sn => ?_
        refine ev_res rfl rfl rfl ?_
        simp only [M.resume, st1, if_true, M.say]
        refine ev_end rfl rfl rfl (ev_done (.inr ⟨rfl, Nat.le_refl _, Nat.lt_succ_self _, hlt, ?_⟩))
        dsimp only
        rw [S1_at hlt, if_pos ⟨hb', hc⟩, Nat.sub_self]; rfl
      · have hS : S1 text p = text.getD p 0 :: S1 text (p + 1) := by rw [S1_at hlt, if_neg (fun q => hc q.2)]
        refine ev_le (n := 4 * n + 4 + 1 + 1 + 1) ?_ (by omega)
        refine ev_at1 rfl rfl rfl rfl (by show 5 < 10; decide) hb fun sn => ?_
        refine ev_lit0 rfl rfl rfl (by show 7 < 10; decide) (.inr hc) fun sn => ?_
        refine ev_res rfl rfl rfl ?_
        refine ev_mono (Q := Res text [46, 46] (S1 text) (p + 1)) ?_ fun m r => r.prev hlt hS
        simp only [M.resume, st1, hlt, if_true, M.say, Bool.false_eq_true, if_false]
        exact IH sn
    · have hb' : bol text p = false := by unfold bol; simpa using hb
      have hS : S1 text p = text.getD p 0 :: S1 text (p + 1) := by rw [S1_at hlt, if_neg (fun q => by rw [hb'] at q; cases q.1)]
      refine ev_le (n := 4 * n + 4 + 1 + 1) ?_ (by omega)
      refine ev_at0 rfl rfl rfl rfl (by show 5 < 10; decide) hb fun sn => ?_
      refine ev_res rfl rfl rfl ?_
      refine ev_mono (Q := Res text [46, 46] (S1 text) (p + 1)) ?_ fun m r => r.prev hlt hS
      simp only [M.resume, st1, hlt, if_true, M.say, Bool.false_eq_true, if_false]
      exact IH sn
end Mine

end
section
namespace Mine
open PySem PySem.Sre

def st2 (text : Array Nat) (s : Nat) (first : Bool) (must : Bool) (seen : Seen) : M :=
  { code := code2, text, lim := text.size, start := s, lastStart := text.size, mustAdvance := must, pc := 10, pos := s, handed := s, outermost := first, marks := #[], lastmark := -1, lastindex := -1, frames := [{ wait := .nextStart, pc := 10, pos := s, outermost := first }], weight := 1, seen }

def sub2 : List Nat → List Nat
  | [] => []
  | 13 :: 10 :: r => 13 :: 10 :: sub2 r
  | c :: r => if c = 13 ∨ c = 10 then 13 :: 10 :: sub2 r else c :: sub2 r
def S2 (text : Array Nat) (p : Nat) : List Nat := sub2 (text.toList.drop p)

theorem sub2_other {c : Nat} {r : List Nat} (h : c ≠ 13) (h' : c ≠ 10) : sub2 (c :: r) = c :: sub2 r := by
  rw [sub2]
  · rw [if_neg (by simp [h, h'])]
  · intro r' e; exact absurd e h
theorem sub2_10 {r : List Nat} : sub2 (10 :: r) = 13 :: 10 :: sub2 r := by
  rw [sub2]
  · rw [if_pos (.inr rfl)]
  · intro r' e; cases e
theorem sub2_1310 {r : List Nat} : sub2 (13 :: 10 :: r) = 13 :: 10 :: sub2 r := by rw [sub2]
theorem sub2_13 {r : List Nat} (h : ∀ c r', r = c :: r' → c ≠ 10) : sub2 (13 :: r) = 13 :: 10 :: sub2 r := by
  rw [sub2]
  · rw [if_pos (.inl rfl)]
  · intro r' _ e; exact h _ _ e rfl

theorem inSet2 (c : Nat) (seen : Seen) : ∃ sn, inSet code2 c code2.size 5 true seen = .ok (decide (c = 10 ∨ c = 13), sn) := by
  by_cases h : c = 10
  · subst h; exact ⟨seen.add 16, rfl⟩
  · by_cases h' : c = 13
    · subst h'; exact ⟨(seen.add 16).add 16, rfl⟩
    · refine ⟨((seen.add 16).add 16).add 0, ?_⟩
      have e1 : (c == 10) = false := by simpa using h
      have e2 : (c == 13) = false := by simpa using h'
      have e3 : decide (c = 10 ∨ c = 13) = false := by simp [h, h']
      rw [e3]
      show inSet code2 c 36 5 true seen = _
      unfold inSet
      show (if (c == 10) = true then _ else inSet code2 c 35 7 true (seen.add 16)) = _
      rw [e1]
      show inSet code2 c 35 7 true (seen.add 16) = _
      unfold inSet
      show (if (c == 13) = true then _ else inSet code2 c 34 9 true ((seen.add 16).add 16)) = _
      rw [e2]
      rfl

theorem adm2 {m : M} {text : Array Nat} (hc : m.code = code2) (ht : m.text = text) (hl : m.lim = text.size) : ∀ (fuel s : Nat) (seen : Seen), text.size < fuel + s →
    (∃ sn, M.admitted m fuel s seen = .ok (none, sn) ∧ S2 text s = text.toList.drop s) ∨
    (∃ s' sn, M.admitted m fuel s seen = .ok (some s', sn) ∧ s ≤ s' ∧ s' < text.size ∧ (text.getD s' 0 = 10 ∨ text.getD s' 0 = 13) ∧ S2 text s = (text.toList.drop s).take (s' - s) ++ S2 text s') := by
  intro fuel
  induction fuel with
  | zero => intro s seen h; refine .inl ⟨_, rfl, ?_⟩; unfold S2; rw [List.drop_eq_nil_of_le (by simp; omega)]; unfold sub2; rfl
  | succ fuel ih =>
    intro s seen h
    unfold M.admitted
    rw [hl, hc, ht]
    by_cases hs : s ≥ text.size
    · rw [if_pos hs]
      refine .inl ⟨_, rfl, ?_⟩; unfold S2; rw [List.drop_eq_nil_of_le (by simp; omega)]; unfold sub2; rfl
    · rw [if_neg hs]
      have hs' : s < text.size := by omega
      obtain ⟨sn, e⟩ := inSet2 (text.getD s 0) seen
      rw [e]
      by_cases q : text.getD s 0 = 10 ∨ text.getD s 0 = 13
      · rw [decide_eq_true q]
        exact .inr ⟨s, sn, rfl, Nat.le_refl _, hs', q, by rw [Nat.sub_self, List.take_zero, List.nil_append]⟩
      · rw [decide_eq_false q]
        dsimp only
        have hS : S2 text s = text.getD s 0 :: S2 text (s + 1) := by
          unfold S2; rw [drop_at hs', sub2_other (fun z => q (.inr z)) (fun z => q (.inl z))]
        rcases ih (s + 1) sn (by omega) with ⟨sn', e1, e2⟩ | ⟨s', sn', e1, e2, e3, e4, e5⟩
        · exact .inl ⟨sn', e1, by rw [hS, e2, drop_at hs']⟩
        · refine .inr ⟨s', sn', e1, by omega, e3, e4, ?_⟩
          rw [hS, e5, drop_at hs', show s' - s = (s' - (s + 1)) + 1 by omega, List.take_succ_cons, List.cons_append]

theorem run2_at (text : Array Nat) (s : Nat) (hs : s < text.size) (hc : text.getD s 0 = 10 ∨ text.getD s 0 = 13) (first : Bool) (seen : Seen) : Ev 20 (st2 text s first false seen) (Res text [13, 10] (S2 text) s) := by
  have R : ∀ m : M, ∀ e, m.outcome = some .matched → m.start = s → m.handed = e → s < e → e ≤ text.size → S2 text s = 13 :: 10 :: S2 text e → Res text [13, 10] (S2 text) s m := by
    intro m e h1 h2 h3 h4 h5 h6
    refine .inr ⟨h1, by omega, by omega, by omega, ?_⟩
    rw [h2, h3, Nat.sub_self, List.take_zero, h6]; rfl
  unfold st2
  refine ev_branch rfl rfl rfl (by show 10 < 36; decide) fun sn => ?_
  change Ev 19 { code := code2, text, lim := text.size, start := s, lastStart := text.size, pc := 12, pos := s, handed := s, outermost := first, marks := #[], lastmark := -1, lastindex := -1, frames := [{ wait := .nextBranch, pc := 11, pos := s, outermost := first, kept := { lastmark := -1, lastindex := -1, whole := false, marks := #[] } }, { wait := .nextStart, pc := 10, pos := s, outermost := first }], weight := 2, seen := sn } _
  rcases hc with hc | hc
  · refine ev_lit0 rfl rfl rfl (by show 12 < 36; decide) (.inr (by show text.getD s 0 ≠ 13; rw [hc]; decide)) fun sn => ?_
    refine ev_res rfl rfl rfl ?_
    change Ev 17 { code := code2, text, lim := text.size, start := s, lastStart := text.size, pc := 19, pos := s, handed := s, outermost := first, marks := #[], lastmark := -1, lastindex := -1, frames := [{ wait := .nextBranch, pc := 18, pos := s, outermost := first, kept := { lastmark := -1, lastindex := -1, whole := false, marks := #[] } }, { wait := .nextStart, pc := 10, pos := s, outermost := first }], weight := 2, seen := sn } _
    refine ev_lit1 rfl rfl rfl (by show 19 < 36; decide) hs hc fun sn => ?_
    refine ev_jump rfl rfl rfl (by show 21 < 36; decide) fun sn => ?_
    refine ev_succ rfl rfl rfl (by show 35 < 36; decide) rfl rfl fun sn => ?_
    refine ev_res rfl rfl rfl ?_
    simp only [M.resume, if_true, M.say]
    refine ev_res rfl rfl rfl ?_
    simp only [M.resume, if_true, M.say]
    refine ev_end rfl rfl rfl (ev_done (R _ (s + 1) rfl rfl rfl (Nat.lt_succ_self _) hs ?_))
    unfold S2; rw [drop_at hs, hc, sub2_10]
  · refine ev_lit1 rfl rfl rfl (by show 12 < 36; decide) hs hc fun sn => ?_
    by_cases h10 : s + 1 < text.size ∧ text.getD (s + 1) 0 = 10
    · refine ev_lit1 rfl rfl rfl (by show 14 < 36; decide) h10.1 h10.2 fun sn => ?_
      refine ev_jump rfl rfl rfl (by show 16 < 36; decide) fun sn => ?_
      refine ev_succ rfl rfl rfl (by show 35 < 36; decide) rfl rfl fun sn => ?_
      refine ev_res rfl rfl rfl ?_
      simp only [M.resume, if_true, M.say]
      refine ev_res rfl rfl rfl ?_
      simp only [M.resume, if_true, M.say]
      refine ev_end rfl rfl rfl (ev_done (R _ (s + 2) rfl rfl rfl (by omega) (by omega) ?_))
      unfold S2; rw [drop_at hs, hc, drop_at h10.1, h10.2, sub2_1310]
    · have hno : s + 1 ≥ text.size ∨ text.getD (s + 1) 0 ≠ 10 := by
        by_cases q : s + 1 ≥ text.size
        · exact .inl q
        · exact .inr fun z => h10 ⟨by omega, z⟩
      refine ev_lit0 rfl rfl rfl (by show 14 < 36; decide) hno fun sn => ?_
      refine ev_res rfl rfl rfl ?_
      change Ev 16 { code := code2, text, lim := text.size, start := s, lastStart := text.size, pc := 19, pos := s, handed := s, outermost := first, marks := #[], lastmark := -1, lastindex := -1, frames := [{ wait := .nextBranch, pc := 18, pos := s, outermost := first, kept := { lastmark := -1, lastindex := -1, whole := false, marks := #[] } }, { wait := .nextStart, pc := 10, pos := s, outermost := first }], weight := 2, seen := sn } _
      refine ev_lit0 rfl rfl rfl (by show 19 < 36; decide) (.inr (by show text.getD s 0 ≠ 10; rw [hc]; decide)) fun sn => ?_
      refine ev_res rfl rfl rfl ?_
      change Ev 14 { code := code2, text, lim := text.size, start := s, lastStart := text.size, pc := 24, pos := s, handed := s, outermost := first, marks := #[], lastmark := -1, lastindex := -1, frames := [{ wait := .nextBranch, pc := 23, pos := s, outermost := first, kept := { lastmark := -1, lastindex := -1, whole := false, marks := #[] } }, { wait := .nextStart, pc := 10, pos := s, outermost := first }], weight := 2, seen := sn } _
      refine ev_lit1 rfl rfl rfl (by show 24 < 36; decide) hs hc fun sn => ?_
      refine ev_not rfl rfl rfl rfl (by show 26 < 36; decide) fun sn => ?_
      change Ev 12 { code := code2, text, lim := text.size, start := s, lastStart := text.size, pc := 29, pos := s + 1, handed := s + 1, outermost := false, marks := #[], lastmark := -1, lastindex := -1, frames := [{ wait := .lookNot, pc := 26, pos := s + 1, outermost := first, kept := { lastmark := -1, lastindex := -1, whole := false, marks := #[] } }, { wait := .nextBranch, pc := 23, pos := s, outermost := first, kept := { lastmark := -1, lastindex := -1, whole := false, marks := #[] } }, { wait := .nextStart, pc := 10, pos := s, outermost := first }], weight := 3, seen := sn } _
      refine ev_lit0 rfl rfl rfl (by show 29 < 36; decide) hno fun sn => ?_
      refine ev_res rfl rfl rfl ?_
      change Ev 10 { code := code2, text, lim := text.size, start := s, lastStart := text.size, pc := 32, pos := s + 1, handed := s + 1, outermost := first, marks := #[], lastmark := -1, lastindex := -1, frames := [{ wait := .nextBranch, pc := 23, pos := s, outermost := first, kept := { lastmark := -1, lastindex := -1, whole := false, marks := #[] } }, { wait := .nextStart, pc := 10, pos := s, outermost := first }], weight := 2, seen := sn } _
      refine ev_jump rfl rfl rfl (by show 32 < 36; decide) fun sn => ?_
      refine ev_succ rfl rfl rfl (by show 35 < 36; decide) rfl rfl fun sn => ?_
      refine ev_res rfl rfl rfl ?_
      simp only [M.resume, if_true, M.say]
      refine ev_res rfl rfl rfl ?_
      simp only [M.resume, if_true, M.say]
      refine ev_end rfl rfl rfl (ev_done (R _ (s + 1) rfl rfl rfl (Nat.lt_succ_self _) hs ?_))
      unfold S2; rw [drop_at hs, hc, sub2_13]
      intro c r' e
      by_cases q : s + 1 < text.size
      · rw [drop_at q] at e; cases e; exact hno.resolve_left (by omega)
      · rw [List.drop_eq_nil_of_le (by simp; omega)] at e; cases e

theorem Res.from {text : Array Nat} {repl : List Nat} {S : Nat → List Nat} {p s : Nat} {m : M} (hps : p ≤ s) (hs : s ≤ text.size) (hS : S p = (text.toList.drop p).take (s - p) ++ S s) (r : Res text repl S s m) : Res text repl S p m := by
  have hd : text.toList.drop p = (text.toList.drop p).take (s - p) ++ text.toList.drop s := by
    conv => lhs; rw [← List.take_append_drop (s - p) (text.toList.drop p)]
    rw [List.drop_drop, show p + (s - p) = s by omega]
  have hlen : ((text.toList.drop p).take (s - p)).length = s - p := by simp; omega
  rcases r with ⟨a, b⟩ | ⟨a, b, c, d, e⟩
  · exact .inl ⟨a, by rw [hS, b, ← hd]⟩
  · refine .inr ⟨a, by omega, c, d, ?_⟩
    rw [hS, e, ← List.append_assoc]
    congr 1
    conv => rhs; rw [hd]
    rw [List.take_append, hlen, List.take_take, show min (m.start - p) (s - p) = s - p by omega, show m.start - p - (s - p) = m.start - s by omega]
end Mine

end
section
namespace Mine
open PySem PySem.Sre

theorem S1_end {text : Array Nat} {p : Nat} (h : text.size ≤ p) : S1 text p = text.toList.drop p := by
  unfold S1; rw [List.drop_eq_nil_of_le (by simpa using h)]; unfold sub1; rfl
theorem S2_end {text : Array Nat} {p : Nat} (h : text.size ≤ p) : S2 text p = text.toList.drop p := by
  unfold S2; rw [List.drop_eq_nil_of_le (by simpa using h)]; unfold sub2; rfl

theorem search1 (text : Array Nat) (p : Nat) (hp : p ≤ text.size) : Ev (4 * text.size + 40) (forSearch code1 text 0 p text.size false) (Res text [46, 46] (S1 text) p) := by
  by_cases q : p = text.size
  · have e : ∃ m0 : M, forSearch code1 text 0 p text.size false = m0 ∧ m0.outcome = none ∧ m0.answer = some false ∧ m0.frames = [] := by
      have c : (p > text.size || text.size - p < 1) = true := by simp; omega
      unfold forSearch
      refine ⟨_, (show (if (decide (p > text.size) || decide (text.size - p < 1)) = true then _ else _) = _ from if_pos c), rfl, rfl, rfl⟩
    obtain ⟨m0, e, h1, h2, h3⟩ := e
    rw [e]
    refine ev_le (n := 1) ?_ (by omega)
    exact ev_end h1 h2 h3 (ev_done (.inl ⟨rfl, S1_end (by omega)⟩))
  · have e : ∃ sn, forSearch code1 text 0 p text.size false = st1 text p true sn := by
      have c : (p > text.size || text.size - p < 1) = false := by simp; omega
      refine ⟨({} : Seen).add 14, ?_⟩
      unfold forSearch
      show (if (decide (p > text.size) || decide (text.size - p < 1)) = true then _ else _) = _
      rw [c, if_neg (by decide)]
      rfl
    obtain ⟨sn, e⟩ := e
    rw [e]
    exact ev_le (run1 text (text.size - p) p rfl hp true sn) (by omega)

theorem search2 (text : Array Nat) (p : Nat) (hp : p ≤ text.size) : Ev (4 * text.size + 40) (forSearch code2 text 0 p text.size false) (Res text [13, 10] (S2 text) p) := by
  by_cases q : p = text.size
  · have e : ∃ m0 : M, forSearch code2 text 0 p text.size false = m0 ∧ m0.outcome = none ∧ m0.answer = some false ∧ m0.frames = [] := by
      have c : (p > text.size || text.size - p < 1) = true := by simp; omega
      unfold forSearch
      refine ⟨_, (show (if (decide (p > text.size) || decide (text.size - p < 1)) = true then _ else _) = _ from if_pos c), rfl, rfl, rfl⟩
    obtain ⟨m0, e, h1, h2, h3⟩ := e
    rw [e]
    refine ev_le (n := 1) ?_ (by omega)
    exact ev_end h1 h2 h3 (ev_done (.inl ⟨rfl, S2_end (by omega)⟩))
  · let m0 : M := { code := code2, text, lim := text.size, start := p, lastStart := text.size, pc := 10, pos := p, handed := p, marks := #[], seen := ({} : Seen).add 14 }
    have e : forSearch code2 text 0 p text.size false = (match M.admitted m0 (text.size + 1 - p) p m0.seen with
        | .ok (some s, seen) => M.attemptAt { m0 with mustAdvance := false, seen } s true
        | .ok (none, seen) => M.say { m0 with seen } false
        | .error why => m0.stick why) := by
      have c : (p > text.size || text.size - p < 1) = false := by simp; omega
      unfold forSearch
      show (if (decide (p > text.size) || decide (text.size - p < 1)) = true then _ else _) = _
      rw [c, if_neg (by decide)]
      rfl
    rw [e]
    rcases adm2 (m := m0) (text := text) rfl rfl rfl (text.size + 1 - p) p m0.seen (by omega) with ⟨sn, e1, e2⟩ | ⟨s, sn, e1, e2, e3, e4, e5⟩
    · rw [e1]
      refine ev_le (n := 1) ?_ (by omega)
      exact ev_end rfl rfl rfl (ev_done (.inl ⟨rfl, e2⟩))
    · rw [e1]
      refine ev_le (n := 20) ?_ (by omega)
      exact ev_mono (run2_at text s e3 e4 true sn) fun m r => r.from e2 (Nat.le_of_lt e3) e5

/-- the outcome stands from some step on -/
theorem ev_run {n : Nat} {m : M} {Q : M → Prop} (h : Ev n m fun m => m.outcome.isSome = true ∧ Q m) : ∃ k, k ≤ n ∧ (steps k m).outcome.isSome = true ∧ Q (steps k m) := h
theorem Res.some {text : Array Nat} {repl : List Nat} {S : Nat → List Nat} {p : Nat} {m : M} (r : Res text repl S p m) : m.outcome.isSome = true := by
  rcases r with ⟨a, _⟩ | ⟨a, _⟩ <;> rw [a] <;> rfl
end Mine

end
section
open PySem PySem.W PyProof.Rows PySem.Calls PySem.Builtin.Re
namespace Mine
section
variable {M : Model} {A : Around} {E : Value → Shared → Prop} {s : Shared}
theorem reDrive_ {Q : Sre.M → Shared → Prop} : ∀ (turns k : Nat) (m : Sre.M), k < 4 * turns → (steps k m).outcome.isSome = true → Q (steps k m) s → wpAny M A (reDrive turns m) Q E s := by
  intro turns
  induction turns with
  | zero => intro k m h; exact absurd h (by omega)
  | succ turns ih =>
    intro k m hk ho hq
    show wpAny M A (if (m.runFor reTurnSteps).outcome.isSome = true then pure (m.runFor reTurnSteps) else (do rule "sre.turn"; reDrive turns (m.runFor reTurnSteps))) Q E s
    rw [show m.runFor reTurnSteps = steps 4 m from runFor_steps 4 m]
    by_cases h4 : k ≤ 4
    · have e : steps 4 m = steps k m := by
        conv => lhs; rw [show 4 = k + (4 - k) by omega, steps_add, steps_done ho]
      rw [e, if_pos ho]; exact wpAny_pure hq
    · have e : steps k m = steps (k - 4) (steps 4 m) := by rw [← steps_add]; congr 1; omega
      by_cases q : (steps 4 m).outcome.isSome = true
      · rw [if_pos q]
        rw [e, steps_done q] at hq
        exact wpAny_pure hq
      · rw [if_neg q]
        exact wpAny_bind (wpAny_rule (ih (k - 4) (steps 4 m) (by omega) (by rw [← e]; exact ho) (by rw [← e]; exact hq)))

theorem reRun_ {Q : Option Sre.M → Shared → Prop} {text : Array Nat} {repl : List Nat} {S : Nat → List Nat} {p n : Nat} {m : Sre.M} (h : Ev n m (Res text repl S p)) (hn : n < 2 ^ 64)
    (hf : S p = text.toList.drop p → Q none s)
    (hm : ∀ m, p ≤ m.start → m.start < m.handed → m.handed ≤ text.size → S p = (text.toList.drop p).take (m.start - p) ++ (repl ++ S m.handed) → Q (some m) s) :
    wpAny M A (reRunToEnd m) Q E s := by
  obtain ⟨k, hk, r⟩ := h
  unfold reRunToEnd
  refine wpAny_bind (reDrive_ (2 ^ 64) k m (by omega) r.some ?_)
  refine wpAny_bind (wpAny_forIn_list _ (fun _ _ s' => s' = s) _ ?_ ?_ _ _ rfl)
  · intro i rest b s' hs
    subst hs
    split
    · exact wpAny_bind (wpAny_rule (wpAny_pure rfl))
    · exact wpAny_pure rfl
  · intro _ s' hs
    subst hs
    rcases r with ⟨a, b⟩ | ⟨a, b, c, d, e⟩
    · rw [a]; exact wpAny_pure (hf b)
    · rw [a]; exact wpAny_pure (hm _ b c d e)
end
end Mine

end
section
open PySem PySem.W PyProof.Rows PySem.Calls PySem.Builtin.Re
namespace Mine
theorem entry_subloop : entryFor table "re.Pattern.sub.loop" = some Builtin.«re.Pattern.sub.loop» := entryFor_of_tree (by kernel_rfl)
theorem entry_resub : entryFor table "re.Pattern.sub" = some Builtin.«re.Pattern.sub» := entryFor_of_tree (by kernel_rfl)
theorem slot_resub : Slot "re.Pattern" "sub" "re.Pattern.sub" :=
  .of (owner := "re.Pattern") (n := "sub") (by rw [typeLookup_type, builtinLookup_eq_fast]; kernel_rfl) (by decide +kernel) (by decide +kernel) (by decide +kernel)
    (by first | exact .inl (by decide +kernel) | exact .inr (by decide +kernel)) (by rw [isSubtype_type]; kernel_rfl)
theorem type_resub : typeOf (.builtin "re.Pattern.sub") = pure (.type "method_descriptor") := by show builtinType _ = _; rw [builtinType_eq_fast]; kernel_rfl
end Mine

end
section
open PySem PySem.W PyProof.Rows PySem.Calls PySem.Builtin.Re
namespace Mine
theorem plainAttrs_re : PlainAttrs "re.Pattern" :=
  ⟨⟨"object.__getattribute__", by rw [typeLookup_type, builtinLookup_eq_fast]; kernel_rfl, by decide +kernel⟩, by rw [typeLookup_type, builtinLookup_eq_fast]; kernel_rfl⟩
theorem owner_re : Manifest.owners.lookup (String.ofList ['n', 'r', 'e', 't', 't', 'a', 'P', '.', 'e', 'r'].reverse) = some Manifest.sig_re_Pattern := by kernel_rfl
theorem args_resub (a b c : Value) : argsOk "re.Pattern.sub" ⟨[a, b, c], []⟩ := by
  unfold argsOk; rw [signature?_of (id := "re.Pattern.sub") (n := ['b', 'u', 's']) (o := ['n', 'r', 'e', 't', 't', 'a', 'P', '.', 'e', 'r']) (by kernel_rfl) owner_re]; kernel_rfl
section
variable {w : World} {A : Around} {E : Value → Shared → Prop} {s : Shared}
/-- the two pattern objects -/
def IsPat (h : Heap) (P : Addr) (code : Array Nat) : Prop :=
  ∃ o c o' a b d e, h.get? P = some o ∧ o.cls = .type "re.Pattern" ∧ o.dict = none ∧ o.data = .fields #[a, b, .int 0 d, .none, e, .ref c, .int 0 0] ∧ h.get? c = some o' ∧ o'.cls = .type "tuple" ∧
    ∃ xs n, o'.data = .seq xs n ∧ (xs.map reRawOf).map (·.toNat) = code
theorem IsPat.keep {h h' : Heap} {P : Addr} {code : Array Nat} (x : IsPat h P code) (k : ∀ b o, h.get? b = some o → h'.get? b = some o) : IsPat h' P code :=
  let ⟨o, c, o', a, b, d, e, h1, h2, h3, h4, h5, h6⟩ := x; ⟨o, c, o', a, b, d, e, k _ _ h1, h2, h3, h4, k _ _ h5, h6⟩
theorem IsPat.but {h h' : Heap} {P pl : Addr} {code : Array Nat} {vs : List Value} {n : Nat} (x : IsPat h P code) (hl : h.get? pl = some (lstN vs n)) (k : ∀ b o, b ≠ pl → h.get? b = some o → h'.get? b = some o) : IsPat h' P code := by
  obtain ⟨o, c, o', a, b, d, e, h1, h2, h3, h4, h5, h6, h7⟩ := x
  refine ⟨o, c, o', a, b, d, e, k _ _ (fun z => ?_) h1, h2, h3, h4, k _ _ (fun z => ?_) h5, h6, h7⟩
  · rw [z, hl] at h1; cases h1; exact absurd h2 (by simp)
  · rw [z, hl] at h5; cases h5; exact absurd h6 (by simp)
theorem whole_ {P : Addr} {code : Array Nat} {x : Str} {t : Tok} {Q : ReTarget → Shared → Prop} (hp : IsPat s.heap P code)
    (k : Q { pattern := .ref P, string := .str x t, code, text := x.cps, kind := 0, groups := 0, pos := 0, lim := x.cps.size } s) : wpAny M A (reWholeTarget (.ref P) (.str x t)) Q E s := by
  obtain ⟨o, c, o', a, b, d, e, h1, h2, h3, h4, h5, _, xs, n, h6, h7⟩ := hp
  unfold reWholeTarget
  refine wpAny_bind (wpAny_fieldsOf h1 h4 ?_)
  refine wpAny_bind (wpAny_of_eq (a := (x.cps, 0)) rfl ?_)
  show wpAny M A (reNoCollectionInside (.str x t) 0 >>= _) Q E s
  refine wpAny_bind (wpAny_of_eq (a := ()) rfl ?_)
  show wpAny M A (reRawItems (.ref c) >>= _) Q E s
  refine wpAny_bind ?_
  unfold reRawItems
  refine wpAny_bind (wpAny_seqItems h5 h6 (wpAny_pure (wpAny_pure ?_)))
  show Q { pattern := .ref P, string := .str x t, code := (xs.map reRawOf).map (·.toNat), text := x.cps, kind := 0, groups := 0, pos := 0, lim := x.cps.size } s
  rw [h7]; exact k
end

section
variable {prog : Program} {w : World} {A : Around} {E : Value → Shared → Prop} {R : Result → Shared → Prop}
def jn (l : List (Str × Tok)) : List Nat := l.flatMap fun p => p.1.cps.toList
theorem jn_app (l l' : List (Str × Tok)) : jn (l ++ l') = jn l ++ jn l' := List.flatMap_append
theorem plain_subloop : plainId "re.Pattern.sub.loop" = true := by decide +kernel
theorem jn_join : ∀ l : List (Str × Tok), Str.join ⟨#[]⟩ (l.map (·.1)) = ⟨(jn l).toArray⟩
  | [] => rfl
  | [p] => by show p.1 = _; simp [jn]
  | p :: q :: r => by
    have ih := jn_join (q :: r)
    show p.1 ++ (⟨#[]⟩ : Str) ++ Str.join ⟨#[]⟩ ((q :: r).map (·.1)) = _
    rw [ih]
    show (⟨(p.1.cps ++ #[]) ++ (jn (q :: r)).toArray⟩ : Str) = ⟨(jn (p :: q :: r)).toArray⟩
    have : jn (p :: q :: r) = p.1.cps.toList ++ jn (q :: r) := rfl
    rw [this]; simp
theorem subFin {pl : Addr} {x : Str} {l : List (Str × Tok)} {n0 : Nat} {k : Int} {Q : Fin → Shared → Prop} {h : Heap} {t : Nat} {g : Array GenState} {d : Drawn} {os : OsState}
    (hl : h.get? pl = some (lstN (strValues l) n0)) (hB : ∀ y ∈ l, y.1.length ≤ 1010) (hlen : l.length ≤ 3000)
    (hR : ∀ tk u, t ≤ tk → Q (.done (.ret (.str ⟨(jn l).toArray⟩ u))) ⟨h, g, d, tk, os⟩) :
    wpAny (model prog w) A (do
      let joiner ← reSlice x.cps 0 0 0
      let __do_lift ← seqItems? (Value.ref pl)
      if (__do_lift.getD #[]).isEmpty = true then do
          let text ← pure joiner
          if false = true then do
              let __do_lift ←
                holding [text] do
                    let __do_lift ← mkInt k
                    newTuple [text, __do_lift]
              ret __do_lift
            else ret text
        else do
          let text ← call (Value.builtin (if ((0 : Nat) == 0) = true then "str.join" else "bytes.join")) [joiner, Value.ref pl]
          if false = true then do
              let __do_lift ←
                holding [text] do
                    let __do_lift ← mkInt k
                    newTuple [text, __do_lift]
              ret __do_lift
            else ret text) Q E ⟨h, g, d, t, os⟩ := by
  have e0 : (⟨x.cps.extract 0 0⟩ : Str) = ⟨#[]⟩ := by simp
  refine wpAny_bind ?_
  show wpAny _ _ (mkStr ⟨x.cps.extract 0 0⟩) _ _ _
  rw [e0]
  refine wpAny_mkStr ?_ (Nat.zero_le _)
  refine wpAny_bind (wpAny_seqItems hl rfl ?_)
  cases l with
  | nil => exact wpAny_bind (wpAny_pure (wpAny_pure (hR _ _ (Nat.le_succ _))))
  | cons p l =>
    show wpAny _ _ (call (.builtin "str.join") [.str ⟨#[]⟩ t, .ref pl] >>= _) _ _ _
    refine wpAny_bind (wpAny_with_toks (n := t) (Nat.le_succ _) (SC.join (l := p :: l) (texts := (p :: l).map (·.1)) (lst_is hl) rfl ?_ fun t' k' hT => ?_))
    · unfold JoinOk
      rw [StrLaws.joinFits (B := 1010)]
      · rfl
      · intro y hy
        obtain ⟨q, hq, rfl⟩ := List.mem_map.mp hy
        exact hB q hq
      · rw [List.length_map]
        show (p :: l).length * 1010 + (p :: l).length * 0 ≤ 16777216
        omega
    · show wpAny _ _ (ret _) _ _ _
      rw [show Txt.join ⟨#[]⟩ ((p :: l).map (·.1)) = ⟨(jn (p :: l)).toArray⟩ from (StrLaws.glued_eq_join _ _).trans (jn_join _)]
      exact wpAny_pure (hR _ _ hT)
/-- the loop of a substitution with a literal -/
theorem subLoop {code : Array Nat} {P pl : Addr} {x rp : Str} {tx tr : Tok} {S : Nat → List Nat} {g : Array GenState} {d : Drawn} {os : OsState} (hx : x.cps.size ≤ 1000) (hr : rp.cps.size ≤ 2)
    (search : ∀ p, p ≤ x.cps.size → Ev (4 * x.cps.size + 40) (Sre.forSearch code x.cps 0 p x.cps.size false) (Res x.cps rp.cps.toList S p)) :
    ∀ (n p : Nat), x.cps.size - p = n → p ≤ x.cps.size → ∀ (h : Heap) (t : Nat) (l : List (Str × Tok)) (k n0 : Nat), IsPat h P code → h.get? pl = some (lstN (strValues l) n0) →
      (∀ y ∈ l, y.1.length ≤ 1010) → l.length ≤ 2 * p →
      (∀ h' tk u, t ≤ tk → (∀ b o, b ≠ pl → h.get? b = some o → h'.get? b = some o) → R (.ok (.ret (.str ⟨(jn l ++ S p).toArray⟩ u))) ⟨h', g, d, tk, os⟩) →
      codeAny (model prog w) A (.builtin "re.Pattern.sub.loop" ⟨[.ref P, .str x tx, .str rp tr, rawInt 0, rawInt 0, rawInt k, rawInt p, rawInt p, .bool false, .ref pl, .bool false], []⟩) R ⟨h, g, d, t, os⟩ := by
  intro n
  induction n using Nat.strongRecOn with
  | ind n ih =>
  intro p hn hp h t l k n0 hP hl hB hlen hR
  refine codeAny_builtin entry_subloop ?_
  show wpAny _ _ (reWholeTarget (.ref P) (.str x tx) >>= _) _ _ _
  refine wpAny_bind (whole_ hP ?_)
  show wpAny _ _ (reNextFound { pattern := .ref P, string := .str x tx, code, text := x.cps, kind := 0, groups := 0, pos := 0, lim := x.cps.size } p false >>= _) _ _ _
  have szl : ∀ b e, (x.cps.extract b e).size ≤ 1000 := fun b e => by rw [Array.size_extract]; omega
  have szl' : ∀ b e, (⟨x.cps.extract b e⟩ : Str).length ≤ sizeLine := fun b e => Nat.le_trans (szl b e) (Nat.le_of_ble_eq_true rfl)
  have hsl : 3000 ≤ sizeLine := Nat.le_of_ble_eq_true rfl
  have upd : ∀ (h : Heap) (l : List (Str × Tok)) (n0 : Nat) (y : Str) (u : Tok), h.get? pl = some (lstN (strValues l) n0) → ∀ h', h' = h.update pl (Obj.mapSeq (·.push (.str y u))) →
      (∃ n1, h'.get? pl = some (lstN (strValues (l ++ [(y, u)])) n1)) ∧ (∀ b o, b ≠ pl → h.get? b = some o → h'.get? b = some o) := by
    intro h l n0 y u e h' e'
    subst e'
    refine ⟨⟨if ((strValues l).toArray.push (.str y u)).size == (strValues l).toArray.size then n0 else n0 + 1, (Heap.get?_update_self _ e rfl).trans (congrArg some ?_)⟩, fun b o hb eo => ?_⟩
    · show Obj.mapSeq _ ({ cls := .type "list", data := .seq (strValues l).toArray n0 } : Obj) = { cls := .type "list", data := .seq (strValues (l ++ [(y, u)])).toArray _ }
      rw [show (strValues (l ++ [(y, u)])).toArray = (strValues l).toArray.push (.str y u) by simp [strValues]]
      rfl
    · rw [Heap.get?_update_ne _ _ _ _ hb]; exact eo
  refine wpAny_bind (reRun_ (search p hp) (by omega) (fun hS => ?_) fun m h1 h2 h3 hS => ?_)
  · show wpAny _ _ (if p < x.cps.size then _ else _) _ _ _
    by_cases hlt : p < x.cps.size
    · rw [if_pos hlt]
      refine wpAny_bind (wpAny_mkStr ?_ (szl' _ _))
      refine wpAny_bind (wpAny_updateSeq hl rfl ?_ (by simp [strValues]; omega) (by simp [strValues]; omega))
      obtain ⟨⟨n1, e1⟩, e2⟩ := upd h l n0 ⟨x.cps.extract p x.cps.size⟩ t hl _ rfl
      refine subFin e1 ?_ ?_ fun tk u hT => ?_
      · intro y hy
        rcases List.mem_append.mp hy with hy | hy
        · exact hB y hy
        · rw [List.mem_singleton.mp hy]; exact Nat.le_trans (szl _ _) (by omega)
      · simp; omega
      · have : jn (l ++ [((⟨x.cps.extract p x.cps.size⟩ : Str), t)]) = jn l ++ S p := by
          rw [jn_app, hS]; simp [jn]; exact List.take_of_length_le (by simp)
        rw [this]
        exact hR _ tk u (Nat.le_of_succ_le hT) e2
    · rw [if_neg hlt]
      refine subFin hl hB (by omega) fun tk u hT => ?_
      have : jn l = jn l ++ S p := by rw [hS, List.drop_eq_nil_of_le (by simp; omega), List.append_nil]
      rw [this]
      exact hR _ tk u hT fun _ _ _ e => e
  · have go : ∀ (h₁ : Heap) (t₁ : Nat) (l₁ : List (Str × Tok)) (n₁ : Nat), h₁.get? pl = some (lstN (strValues l₁) n₁) → (∀ b o, b ≠ pl → h.get? b = some o → h₁.get? b = some o) → t ≤ t₁ →
        (∀ y ∈ l₁, y.1.length ≤ 1010) → l₁.length ≤ 2 * p + 1 → jn l₁ = jn l ++ (x.cps.toList.drop p).take (m.start - p) →
        wpAny (model prog w) (A.under (.builtin "re.Pattern.sub.loop" ⟨[.ref P, .str x tx, .str rp tr, rawInt 0, rawInt 0, rawInt k, rawInt p, rawInt p, .bool false, .ref pl, .bool false], []⟩)) (do
          updateSeq pl (·.push (.str rp tr))
          again (.builtin "re.Pattern.sub.loop" ⟨[.ref P, .str x tx, .str rp tr, rawInt 0, rawInt 0, rawInt ((k : Int) + 1), rawInt m.handed, rawInt m.handed, .bool (m.handed == m.start), .ref pl, .bool false], []⟩))
          (fun fin s' => match fin with | .done f => R (.ok f) s' | .again c' => c'.quiet = true ∧ codeAny (model prog w) A c' R s') (fun e s' => R (.error e) s') ⟨h₁, g, d, t₁, os⟩ := by
      intro h₁ t₁ l₁ n₁ hl₁ hk₁ hT₁ hB₁ hlen₁ hj₁
      refine wpAny_bind (wpAny_updateSeq hl₁ rfl ?_ (by simp [strValues]; omega) (by simp [strValues]; omega))
      obtain ⟨⟨n2, e1⟩, e2⟩ := upd h₁ l₁ n₁ rp tr hl₁ _ rfl
      refine wpAny_pure ⟨plainId_quiet plain_subloop _, ?_⟩
      have hne : (m.handed == m.start) = false := by simp; omega
      rw [hne]
      have hkp : ∀ b o, b ≠ pl → h.get? b = some o → (h₁.update pl (Obj.mapSeq (·.push (.str rp tr)))).get? b = some o := fun b o hb e => e2 b o hb (hk₁ b o hb e)
      refine ih (x.cps.size - m.handed) (by omega) m.handed rfl h3 _ t₁ (l₁ ++ [(rp, tr)]) (k + 1) n2 ?_ e1 ?_ (by simp; omega) fun h' tk u hT hk => ?_
      · exact hP.but hl hkp
      · intro y hy
        rcases List.mem_append.mp hy with hy | hy
        · exact hB₁ y hy
        · rw [List.mem_singleton.mp hy]; show rp.cps.size ≤ 1010; omega
      · have : jn (l₁ ++ [(rp, tr)]) ++ S m.handed = jn l ++ S p := by
          rw [jn_app, hj₁, hS]; simp [jn]
        rw [this]
        exact hR h' tk u (Nat.le_trans hT₁ hT) fun b o hb e => hk b o hb (hkp b o hb e)
    show wpAny _ _ (if p < m.start then _ else _) _ _ _
    by_cases hlt : p < m.start
    · rw [if_pos hlt]
      refine wpAny_bind (wpAny_mkStr ?_ (szl' _ _))
      refine wpAny_bind (wpAny_updateSeq hl rfl ?_ (by simp [strValues]; omega) (by simp [strValues]; omega))
      obtain ⟨⟨n1, e1⟩, e2⟩ := upd h l n0 ⟨x.cps.extract p m.start⟩ t hl _ rfl
      refine go _ _ _ n1 e1 e2 (Nat.le_succ _) ?_ (by simp; omega) ?_
      · intro y hy
        rcases List.mem_append.mp hy with hy | hy
        · exact hB y hy
        · rw [List.mem_singleton.mp hy]; exact Nat.le_trans (szl _ _) (by omega)
      · rw [jn_app]; simp [jn]
    · rw [if_neg hlt]
      refine go h t l n0 hl (fun _ _ _ e => e) (Nat.le_refl _) hB (by omega) ?_
      rw [show m.start - p = 0 by omega, List.take_zero, List.append_nil]
end
end Mine

end
section
open PySem PySem.W PyProof.Rows PySem.Calls PySem.Builtin.Re
namespace Mine
local macro_rules | `(tactic| walk_at "lk") => `(tactic| first | assumption | exact if_pos rfl | (refine (if_neg (by decide)).trans ?_; walk_at "lk") | rfl)
section
variable {prog : Program} {w : World} {A : Around} {E : Value → Shared → Prop}
theorem nocall_str : typeLookup (.type "str") "__call__" = pure none := by rw [typeLookup_type, builtinLookup_eq_fast]; kernel_rfl
theorem resub_ {code : Array Nat} {P : Addr} {x rp : Str} {tx tr : Tok} {S : Nat → List Nat} {g : Array GenState} {d : Drawn} {os : OsState} {h : Heap} {t : Nat} {Q : Value → Shared → Prop}
    (hP : IsPat h P code) (hx : x.cps.size ≤ 1000) (hr : rp.cps.size ≤ 2) (hb : rp.cps.contains 92 = false)
    (search : ∀ p, p ≤ x.cps.size → Ev (4 * x.cps.size + 40) (Sre.forSearch code x.cps 0 p x.cps.size false) (Res x.cps rp.cps.toList S p))
    (k : ∀ h' tk u, t ≤ tk → Kp h h' → Q (.str ⟨(S 0).toArray⟩ u) ⟨h', g, d, tk, os⟩) :
    wpAny (model prog w) A (call (.builtin "re.Pattern.sub") [.ref P, .str rp tr, .str x tx]) Q E ⟨h, g, d, t, os⟩ := by
  have hT : (⟨h, g, d, t, os⟩ : Shared).TypeIs (.ref P) "re.Pattern" := let ⟨o, _, _, _, _, _, _, h1, h2, _⟩ := hP; ⟨o, h1, h2⟩
  refine wpAny_call (codeAny_call_builtin slot_resub.plain entry_resub (slot_resub.check _ _ _ _ _ _ _ _ hT (args_resub _ _ _) ?_))
  show wpAny _ _ (reNamed "re.Pattern.sub" "sub" ["repl", "string", "count"] 2 [.str rp tr, .str x tx] [] >>= _) _ _ _
  refine wpAny_bind (wpAny_of_eq (a := [some (.str rp tr), some (.str x tx), none]) rfl ?_)
  refine wpAny_bind (wpAny_pure ?_)
  show wpAny _ _ (specialOf (.str rp tr) "__call__" >>= _) _ _ _
  refine wpAny_bind (wpAny_specialOf (typeIs_str _ _ _) nocall_str ?_)
  show wpAny _ _ (if (!rp.cps.contains 92) = true then _ else _) _ _ _
  rw [hb]
  show wpAny _ _ (holding [.str rp tr] (reWholeTarget (.ref P) (.str x tx)) >>= _) _ _ _
  refine wpAny_bind (wpAny_holding (whole_ hP ?_))
  show wpAny _ _ (newList [] >>= _) _ _ _
  refine wpAny_bind (wpAny_newObj_type (wpAny_pure ⟨plainId_quiet plain_subloop _, ?_⟩) (Nat.zero_le _))
  refine subLoop hx hr search x.cps.size 0 (Nat.sub_zero _) (Nat.zero_le _) _ t [] 0 0 (hP.keep fun b o e => Heap.get?_push_of_some _ e) (Heap.get?_push_size _ rfl) (fun y hy => by cases hy) (Nat.zero_le _) fun h' tk u hT hk => ?_
  refine k h' tk u hT fun b o e => hk b o (Nat.ne_of_lt (Heap.lt_size e)) (Heap.get?_push_of_some _ e)
end
theorem pat1 {w : World} {h : Heap} (B : Base w h) : IsPat h 78 code1 := by
  have h1 := B.X 78 _ rfl
  have h2 := B.X 77 _ rfl
  exact ⟨_, _, _, _, _, _, _, h1, rfl, rfl, rfl, h2, rfl, _, _, rfl, by simp [reRawOf, code1]⟩
theorem pat2 {w : World} {h : Heap} (B : Base w h) : IsPat h 83 code2 := by
  have h1 := B.X 83 _ rfl
  have h2 := B.X 82 _ rfl
  exact ⟨_, _, _, _, _, _, _, h1, rfl, rfl, rfl, h2, rfl, _, _, rfl, by simp [reRawOf, code2]⟩

section
variable {w : World} {A : Around} {R : Result → Shared → Prop} {h : Heap} {g : Array GenState} {d : Drawn} {t : Nat} {os : OsState} {E : Value → Shared → Prop}
theorem g_re1 : nsIn (KK w) mainGlobals "_twin_re_1" = some (some (.ref 78)) := by kernel_rfl
theorem g_re2 : nsIn (KK w) mainGlobals "_twin_re_2" = some (some (.ref 83)) := by kernel_rfl
theorem g_crlf : nsIn (KK w) mainGlobals "CRLF" = some (some (.str "\r\n" 403)) := by kernel_rfl
theorem s_crlf : (Str.ofString "\r\n") = ⟨#[13, 10]⟩ := by decide +kernel
theorem s_dots : (Str.ofString "..") = ⟨#[46, 46]⟩ := by decide +kernel
theorem getsub_ {P : Addr} {code : Array Nat} {Q : Value × List Value → Shared → Prop} {pl : Sem Bool} (hP : IsPat h P code) (k : Q (.builtin "re.Pattern.sub", [.ref P]) ⟨h, g, d, t, os⟩) :
    wpAny (model PP w) A (getMethod (.ref P) "sub" pl) Q E ⟨h, g, d, t, os⟩ := by
  obtain ⟨o, _, _, _, _, _, _, h1, h2, h3, _⟩ := hP
  exact getMethod_builtin (T := "re.Pattern") ⟨o, h1, h2⟩ plainAttrs_re slot_resub type_resub (fun a e => by cases e; exact ⟨o, h1, h3⟩) k
set_option maxRecDepth 20000 in
theorem quote_C {x : Str} {tx : Tok} (B : Base w h) (hroom : A.depth < recursionLimit) (hA : A.handled = none) (hx : x.cps.size ≤ 1000) (hx2 : (sub2 x.cps.toList).length ≤ 1000)
    (k : ∀ h' tk u, t ≤ tk → Kp h h' → R (.ok (.ret (.str ⟨(sub1 true (sub2 x.cps.toList)).toArray⟩ u))) ⟨h', g, d, tk, os⟩) :
    codeAny (model PP w) A (.call (.ref 90) ⟨[.str x tx], []⟩) R ⟨h, g, d, t, os⟩ := by
  have ho := B.X 90 _ rfl
  refine ent_ B hroom ho (by kernel_rfl) rfl rfl fun h₁ tk hT D => ?_
  clear ho
  refine wpAny_execs_cons (wpAny_Return_some ?_)
  refine MethodCall_ (gl_ D B g_re1 ?_)
  refine getsub_ (pat1 (D.base B)) ?_
  refine callWith_method1 (spliced_more (cs_ fun u1 tk1 hu1 hu1' => spliced_more ?_))
  rw [s_dots]
  refine MethodCall_ (gl_ D B g_re2 ?_)
  refine getsub_ (pat2 (D.base B)) ?_
  refine callWith_method1 (spliced_more (gl_ D B g_crlf (spliced_more (ln_ D (by walk_at "lk") (spliced_none ?_)))))
  rw [s_crlf]
  refine resub_ (S := S2 x.cps) (pat2 (D.base B)) hx (Nat.le_refl _) (by simp) (search2 x.cps) fun h₂ tk2 u2 hT2 K => ?_
  replace D := D.keep K
  refine spliced_none ?_
  rw [show S2 x.cps 0 = sub2 x.cps.toList from rfl]
  refine resub_ (S := S1 _) (pat1 (D.base B)) (by simpa using hx2) (Nat.le_refl _) (by simp) (search1 _) fun h₃ tk3 u3 hT3 K => ?_
  replace D := D.keep K
  exact k _ _ _ (by omega) D.F.keep
end
end Mine

end
section
open PySem PySem.W PyProof.Rows PySem.Calls
namespace Mine
def RawW (base : Heap) (l : List Env) (e : Addr) (cls a0 : Value) (h : Heap) : Prop :=
  base.StaysIn h ∧ base.get? e = none ∧ h.FunFrames base l ∧ ∃ oe vs, h.get? e = some oe ∧ oe.cls = cls ∧ oe.data = .fields vs ∧ vs[1]? = some .none ∧ vs[0]? = some a0

section
variable {M : Model} {A : Around} {E : Value → Shared → Prop} {s : Shared} {base : Heap} {env : Env} {outer : List Env} {L e : Addr} {cls a0 : Value} {Q : Unit → Shared → Prop}
theorem raw_leave (hfr : A.frames = some (env :: outer)) (hf : env.frame = some L) (hr : RawW base (env :: outer) e cls a0 s.heap)
    (hQ : ∀ h', Heap.FlyingW base outer e cls a0 h' → s.heap.UpToSlots h' → Q () { s with heap := h' }) : wpAny M A (leaving env (.ref e)) Q E s := by
  obtain ⟨r1, r2, r3, oe, vs, r4, rfl, r5, r6, r7⟩ := hr
  refine wpAny_leaving_firstW hfr r3 hf r4 r1 r2 r5 r6 r7 fun h' hL => ?_
  obtain ⟨k1, ⟨_, _, k2⟩, k3, k4⟩ := hL
  exact hQ h' ⟨k1, r2, k2, k3⟩ k4
theorem raw_note (hfr : A.frames = some (env :: outer)) (hf : env.frame = some L) (hr : RawW base (env :: outer) e cls a0 s.heap)
    (hQ : ∀ h', Heap.HeldW base (env :: outer) e cls a0 L h' → s.heap.UpToSlots h' → Q () { s with heap := h' }) : wpAny M A (noteFrame (.ref e) env) Q E s := by
  obtain ⟨r1, r2, r3, oe, vs, r4, rfl, r5, r6, r7⟩ := hr
  unfold noteFrame
  simp only [hf]
  refine wpAny_bind (wpAny_field r4 r5 r6 ?_)
  rw [if_neg (by decide)]
  refine wpAny_entryW hfr r3 hf r4 r1 r2 r5 (Array.getElem?_eq_some_iff.mp r6).1 r7 fun h' hN => ?_
  obtain ⟨k1, k2, k3, k4⟩ := hN
  exact hQ h' ⟨k1, r2, k2, k3⟩ k4
theorem held_back {E' : Value → Shared → Prop} (hf : env.frame = some L) (hh : Heap.HeldW base (env :: outer) e cls a0 L s.heap)
    (hQ : ∀ h', Heap.HeldW base (env :: outer) e cls a0 L h' → s.heap.UpToSlots h' → E' (.ref e) { s with heap := h' }) : cameBackBy M A env E' (.ref e) s := by
  obtain ⟨f1, f2, f3, oe, vs, T, oT, ts, he, hcls, hd, h1, hnT, hTe, hT, hdT, h3⟩ := hh
  have hsz3 : 3 < ts.size := (Array.getElem?_eq_some_iff.mp h3).1
  unfold cameBackBy
  refine wpAny_bind (wpAny_field he hd h1 ?_)
  rw [if_neg (by simp)]
  have other : ∀ b, b ≠ T → (s.heap.update T (Obj.mapFields (·.setIfInBounds 3 (rawInt L)))).get? b = s.heap.get? b :=
    fun b hb => Heap.get?_update_other _ _ (Ne.symm hb)
  have noRecord : ∀ b o, s.heap.get? b = some o → (∀ vs, o.data ≠ .fields vs) → b ≠ T := fun b o hb hnf q => by
    rw [q, hT] at hb; injection hb with hb; subst hb; exact hnf ts hdT
  unfold setFlight
  rw [hf]
  refine wpAny_bind (wpAny_field he hd h1 ?_)
  rw [if_pos (show (Value.ref T != Value.none) = true from by simp)]
  refine wpAny_setField hT hdT hsz3 (hQ _ ⟨fun b o hbo => (other b fun q => by rw [q, hnT] at hbo; cases hbo).trans (f1 b o hbo), f2,
    f3.of_keeps fun b o hb hnf => ⟨o, (other b (noRecord b o hb hnf)).trans hb, rfl⟩, ?_⟩ fun b o hb hnf => ⟨o.slots, (other b (noRecord b o hb hnf)).trans hb⟩)
  exact ⟨oe, vs, T, _, _, (other e (Ne.symm hTe)).trans he, hcls, hd, h1, hnT, hTe, Heap.get?_update_self _ hT (Obj.isFreed_of_fields (Obj.data_mapFields hdT _)), Obj.data_mapFields hdT _, by simp [hsz3]⟩
theorem held_leave (hf : env.frame = some L) (hh : Heap.HeldW base (env :: outer) e cls a0 L s.heap)
    (hQ : ∀ h', Heap.FlyingW base outer e cls a0 h' → s.heap.UpToSlots h' → Q () { s with heap := h' }) : wpAny M A (leaving env (.ref e)) Q E s := by
  unfold leaving
  refine wpAny_bind (wpAny_noteFrame_againW hf hh.2.2.2 ?_)
  refine wpAny_landsW hh fun h' hfl u => ?_
  obtain ⟨k1, k2, ⟨_, _, k3⟩, k4⟩ := hfl
  exact hQ h' ⟨k1, k2, k3, k4⟩ u
end

theorem entry_next : entryFor table "next" = some Builtin.«next» := entryFor_of_tree (by kernel_rfl)
theorem kind_next : builtinKind "next" = none := by decide +kernel
theorem plain_next : plainId "next" = true := by decide +kernel
theorem args_next1 (a : Value) : argsOk "next" ⟨[a], []⟩ := by unfold argsOk; kernel_rfl
section
variable {prog : Program} {w : World} {A : Around} {E : Value → Shared → Prop} {s : Shared}
theorem next_item {it l : Addr} {i : Nat} {items} {x : Value} {Q : Value → Shared → Prop} (hit : s.heap.IsListIter it l i)
    (hl : s.heap.IsList l items) (hx : items[i]? = some x)
    (hQ : ∀ h', h'.IsListIter it l (i + 1) → Heap.SameBut it s.heap h' → Q x { s with heap := h' }) :
    wpAny (model prog w) A (call (.builtin "next") [.ref it]) Q E s := by
  refine Calls.call_function_entry kind_next plain_next entry_next (args_next1 _) ?_
  obtain ⟨o, ho, hc, hd⟩ := id hit
  obtain ⟨ol, hol, _, nl, hdl⟩ := hl
  unfold Builtin.«next»
  refine wpAny_bind (wpAny_of_eq (a := [Value.ref it]) rfl ?_)
  refine wpAny_bind (wpAny_specialOf hit.typeIs slot_listiter_next.lookup ?_)
  dsimp only [Option.isNone, Bool.false_eq_true]
  refine wpAny_bind (wpAny_callSpecial?_slot (name := Str.ofString "__next__") hit.typeIs slot_listiter_next
    (wpAny_call_entry slot_listiter_next hit.typeIs entry_listiter_next ?_ (args_listiter_next _)))
  show wpAny _ _ (field (.ref it) 0 >>= _) _ _ s
  refine wpAny_bind (wpAny_field ho hd (x := .ref l) rfl ?_)
  show wpAny _ _ (if (Value.ref l == Value.none) = true then _ else _) _ _ s
  rw [if_neg (show ¬ ((Value.ref l == Value.none) = true) from Bool.false_ne_true)]
  show wpAny _ _ (field (.ref it) 1 >>= _) _ _ s
  refine wpAny_bind (wpAny_field ho hd (x := .int i 0) rfl ?_)
  show wpAny _ _ (seqItems? (.ref l) >>= _) _ _ s
  refine wpAny_bind (wpAny_seqItems hol hdl ?_)
  simp only [Int.toNat_natCast, hx]
  refine wpAny_bind (wpAny_setField ho hd (by simp) (wpAny_pure ⟨x, rfl, wpAny_pure ⟨_, rfl, hQ _ ?_ (Heap.SameBut.update ..)⟩⟩))
  exact ⟨_, Heap.get?_update_self _ ho (Obj.isFreed_of_fields (Obj.data_mapFields hd _)), (Obj.cls_mapFields ..).trans hc, by
    rw [Obj.data_mapFields hd]; simp [rawInt]⟩
theorem next_end {it l : Addr} {i : Nat} {items} {Q : Value → Shared → Prop} (hh : A.handled = none) (hit : s.heap.IsListIter it l i)
    (hl : s.heap.IsList l items) (hx : items[i]? = none)
    (hE : ∀ h' e, Heap.ExtBut it s.heap h' → s.heap.get? e = none → (∃ oe vs a0, h'.get? e = some oe ∧ oe.cls = .type "StopIteration" ∧ oe.data = .fields vs ∧ vs[1]? = some .none ∧ vs[0]? = some a0) → E (.ref e) { s with heap := h' }) :
    wpAny (model prog w) A (call (.builtin "next") [.ref it]) Q E s := by
  refine Calls.call_function_entry kind_next plain_next entry_next (args_next1 _) ?_
  obtain ⟨o, ho, hc, hd⟩ := id hit
  obtain ⟨ol, hol, _, nl, hdl⟩ := hl
  unfold Builtin.«next»
  refine wpAny_bind (wpAny_of_eq (a := [Value.ref it]) rfl ?_)
  refine wpAny_bind (wpAny_specialOf hit.typeIs slot_listiter_next.lookup ?_)
  dsimp only [Option.isNone, Bool.false_eq_true]
  refine wpAny_bind (wpAny_callSpecial?_slot (name := Str.ofString "__next__") hit.typeIs slot_listiter_next
    (wpAny_call_entry slot_listiter_next hit.typeIs entry_listiter_next ?_ (args_listiter_next _)))
  show wpAny _ _ (field (.ref it) 0 >>= _) _ _ s
  refine wpAny_bind (wpAny_field ho hd (x := .ref l) rfl ?_)
  show wpAny _ _ (if (Value.ref l == Value.none) = true then _ else _) _ _ s
  rw [if_neg (show ¬ ((Value.ref l == Value.none) = true) from Bool.false_ne_true)]
  show wpAny _ _ (field (.ref it) 1 >>= _) _ _ s
  refine wpAny_bind (wpAny_field ho hd (x := .int i 0) rfl ?_)
  show wpAny _ _ (seqItems? (.ref l) >>= _) _ _ s
  refine wpAny_bind (wpAny_seqItems hol hdl ?_)
  simp only [Int.toNat_natCast, hx]
  refine wpAny_bind (wpAny_rule (wpAny_bind (wpAny_setField ho hd (by simp) ?_)))
  show wpAny _ _ (newExc (.type "StopIteration") [] >>= _) _ _ _
  refine wpAny_bind ?_
  simp only [newExc, newTuple]
  refine wpAny_bind (wpAny_newObj_type ?_ (by size_fits))
  refine wpAny_bind (m := firstArgMember _ _) (wpAny_of_eq (a := Value.none) (by first | rfl | (simp only [firstArgMember]; rfl)) ?_)
  refine wpAny_newObj_type ?_ (by size_fits)
  simp only [raiseNew]
  refine wpAny_bind (wpAny_handled ?_)
  rw [show A.in1.in1.handled = none from hh]
  refine wpAny_bind (wpAny_pure (wpAny_throw ?_))
  refine hE _ _ (((Heap.SameBut.update ..).extBut.push _).push _) (Heap.get?_none_of_le (by simp [Heap.update, Heap.push])) ⟨_, _, .ref (s.heap.update it (Obj.mapFields fun x => x.setIfInBounds 0 Value.none)).objs.size, Heap.get?_push_size _ rfl, rfl, rfl, ?_, ?_⟩
  · rfl
  · rfl
end
end Mine

end
section
open PySem PySem.W PyProof.Rows PySem.Calls
namespace Mine
local macro_rules | `(tactic| walk_at "lk") => `(tactic| first | assumption | exact if_pos rfl | (refine (if_neg (by decide)).trans ?_; walk_at "lk") | rfl)

theorem Led.weak {hb h₀ h : Heap} {L : Addr} {m : Str → Option Value} {cs : List (Addr × Obj)} (D : Led h₀ L h m cs) (k : ∀ b o, hb.get? b = some o → h₀.get? b = some o) (hs : hb.objs.size ≤ h₀.objs.size) : Led hb L h m cs :=
  ⟨⟨D.F.ns, fun b o e => D.F.keep b o (k b o e), Nat.le_trans hs D.F.above⟩, fun p hp => ⟨(D.N p hp).1, (D.N p hp).2.1, fresh_of_stays k (D.N p hp).2.2⟩, D.nd⟩

section
variable {w : World} {A : Around} {R : Result → Shared → Prop} {E : Value → Shared → Prop} {h : Heap} {g : Array GenState} {d : Drawn} {t : Nat} {os : OsState} {env : Env}
theorem while2_ {P : Shared → Prop} {test : Expr} {body : List Stmt} {s : Shared}
    (first : wpAny (model PP w) A (isTrue test env (eval test env)) (fun b s₂ => if b = true then wpAny (model PP w) A (execs body env) (fun f s₃ => match f with
        | .next | .cont => P s₃
        | .brk => R (.ok .next) s₃
        | .ret v => R (.ok (.ret v)) s₃) (notedBy (model PP w) A env fun e s' => R (.error e) s') s₂ else R (.ok .next) s₂) (notedBy (model PP w) A env fun e s' => R (.error e) s') s)
    (second : ∀ s, P s → wpAny (model PP w) A (isTrue test env (eval test env)) (fun b s₂ => b = false ∧ R (.ok .next) s₂) (notedBy (model PP w) A env fun e s' => R (.error e) s') s) :
    codeAny (model PP w) A (.whileLoop test body [] env) R s := by
  refine codeAny_whileLoop (fun n s' => (n = 1 ∧ s' = s) ∨ (n = 0 ∧ P s')) ?_ 1 (.inl ⟨rfl, rfl⟩)
  rintro n s' (⟨rfl, rfl⟩ | ⟨rfl, hP⟩)
  · refine wpAny_mono first (fun b s₂ h₂ => ?_) fun _ _ x => x
    cases b with
    | false => exact wpAny_execs_nil h₂
    | true =>
      simp only [if_true] at h₂ ⊢
      refine wpAny_mono h₂ (fun f s₃ h₃ => ?_) fun _ _ x => x
      cases f with
      | next => exact ⟨0, by decide, .inr ⟨rfl, h₃⟩⟩
      | cont => exact ⟨0, by decide, .inr ⟨rfl, h₃⟩⟩
      | brk => exact h₃
      | ret v => exact h₃
  · refine wpAny_mono (second s' hP) (fun b s₂ h₂ => ?_) fun _ _ x => x
    obtain ⟨rfl, h₂⟩ := h₂
    exact wpAny_execs_nil h₂
theorem andi_ {i j u v} {Q : Value → Shared → Prop} (k : ∀ u tk, t ≤ tk → Q (.int (Builtin.bitAnd i j) u) ⟨h, g, d, tk, os⟩) : wpAny (model PP w) A (binaryOp .BitAnd (.int i u) (.int j v)) Q E ⟨h, g, d, t, os⟩ := and_int (k _ _ (Nat.le_succ _))
theorem iori_ {i j u v} {Q : Value → Shared → Prop} (k : ∀ u tk, t ≤ tk → Q (.int (Builtin.bitOr i j) u) ⟨h, g, d, tk, os⟩) : wpAny (model PP w) A (inplaceOp .BitOr (.int i u) (.int j v)) Q E ⟨h, g, d, t, os⟩ := ior_int (k _ _ (Nat.le_succ _))
theorem ishl_ {i j u v} {Q : Value → Shared → Prop} (hn : 0 ≤ j) (hsz : (Builtin.Int.intBits i : Int) + j ≤ 2 ^ 27) (k : ∀ u tk, t ≤ tk → Q (.int (i * 2 ^ j.toNat) u) ⟨h, g, d, tk, os⟩) :
    wpAny (model PP w) A (inplaceOp .LShift (.int i u) (.int j v)) Q E ⟨h, g, d, t, os⟩ := ilshift_int hn hsz (k _ _ (Nat.le_succ _))
theorem b_next : bootBuiltins "next" = some (.builtin "next") := by boot_fast
theorem n_next : nsIn (KK w) mainGlobals "next" = some none := by kernel_rfl

/-- entering a def that may raise -/
theorem entE_ {name : Str} {params : Arguments} {body : List Stmt} {scope : Scope} {pm doc : Value} {f c : Addr} {args : List Value} (B : Base w h) (hroom : A.depth < recursionLimit)
    (ho : h.get? f = some { cls := .type "function", data := .func (Calls.docDef name params body scope pm (.ref c) doc) })
    (hcd : codeIn (KK w) (.ref c) name = true)
    (hbind : bindArgs (Calls.docDef name params body scope pm (.ref c) doc) ⟨args, []⟩ = pure ((params.args.map (·.arg)).zip args))
    (hloc : ((params.args.map (·.arg)).zip args |>.all fun x => decide (scope.names.lookup x.1 = some .local)) = true)
    (k : ∀ h₁ tk, t ≤ tk → Led h h.objs.size h₁ (fun x => ((params.args.map (·.arg)).zip args).reverse.lookup x) [] →
      wpAny (model PP w) (A.deeper (envOf name scope h.objs.size f (.ref c))) (execs body (envOf name scope h.objs.size f (.ref c)))
        (fun f s' => R (.ok (.ret (match f with | .ret v => v | _ => .none))) s')
        (fun e s' => wpAny (model PP w) (A.deeper (envOf name scope h.objs.size f (.ref c))) (leaving (envOf name scope h.objs.size f (.ref c)) e)
          (fun _ s'' => R (.error e) s'') (fun e' s'' => R (.error e') s'') s') ⟨h₁, g, d, tk, os⟩)
    (hco : scope.isCoroutine = false := by rfl) (hgen : scope.isGenerator = false := by rfl) (hk : scope.kind = .function := by rfl)
    (hcell : ∀ x ∈ scope.names, x.2 ≠ .cell := by decide) : codeAny (model PP w) A (.call (.ref f) ⟨args, []⟩) R ⟨h, g, d, t, os⟩ :=
  call_pos (s := ⟨h, g, d, t, os⟩) hroom ho rfl B.nolimit (code_of B hcd) hbind (locs hloc) (fun h₁ F => k h₁ _ (Nat.le_add_right ..) (Led.start F)) hco hgen hk hcell

/-- «x = next(y)», y a local name -/
theorem nxt_ {h₀ hb : Heap} {L a it l : Addr} {m : Str → Option Value} {cs : List (Addr × Obj)} {cn : Str} {sc : Scope} {ccd : Value} {y : Str} {p1 p2 p3 : Pos} {i : Nat} {items : Array Value} {o : Obj} {Q : Value → Shared → Prop}
    (D : Led h₀ L h m ((it, o) :: cs)) (kb : ∀ b o, hb.get? b = some o → h₀.get? b = some o) (hs : hb.objs.size ≤ h₀.objs.size) (B : Base w hb) (hy : m y = some (.ref it)) (hit : h.IsListIter it l i) (hl : h.IsList l items)
    (k1 : ∀ v h' o', items[i]? = some v → h'.IsListIter it l (i + 1) → (∀ b o, b ≠ it → h.get? b = some o → h'.get? b = some o) → Led h₀ L h' m ((it, o') :: cs) → Q v ⟨h', g, d, t, os⟩)
    (hA : items[i]? = none → A.handled = none)
    (k2 : ∀ h' e, items[i]? = none → Heap.ExtBut it h h' → h.get? e = none → (∃ oe vs a0, h'.get? e = some oe ∧ oe.cls = .type "StopIteration" ∧ oe.data = .fields vs ∧ vs[1]? = some .none ∧ vs[0]? = some a0) → E (.ref e) ⟨h', g, d, t, os⟩)
    (hk : sc.kind = .function := by rfl) (hyl : (envOf cn sc L a ccd).kindOf y = some .local := by rfl) (hyd : (y == ("__debug__" : Str)) = false := by decide)
    (hx : (envOf cn sc L a ccd).kindOf "next" = some .globalImplicit := by rfl) :
    wpAny (model PP w) A (eval (.Call (.Name "next" p1) [.Name y p2] [] p3) (envOf cn sc L a ccd)) Q E ⟨h, g, d, t, os⟩ := by
  refine Call_ (bn_ (D.weak kb hs) B n_next b_next (by decide) ?_ hk hx)
  refine callWith_method1 (first := []) (spliced_more (ln_ D hy (spliced_none ?_) hk hyl hyd) rfl) rfl rfl
  cases hi : items[i]? with
  | none => exact next_end (s := ⟨h, g, d, t, os⟩) (hA hi) hit hl hi fun h' e he hn hx => k2 h' e hi he hn hx
  | some v =>
    refine next_item (s := ⟨h, g, d, t, os⟩) hit hl hi fun h' hit' hs' => ?_
    obtain ⟨o', ho', hr⟩ := hit'
    exact k1 v h' o' hi ⟨o', ho', hr⟩ (fun b o hb e => hs'.extBut b o hb e) (D.upd (fun b x hb e => hs'.extBut b x hb e) ho')
end
end Mine

end
section
open PySem PySem.W PyProof.Rows PySem.Calls
namespace Mine
local macro_rules | `(tactic| walk_at "lk") => `(tactic| first | assumption | exact if_pos rfl | (refine (if_neg (by decide)).trans ?_; walk_at "lk") | rfl)

theorem hide_get {h : Heap} {it b : Addr} {o : Obj} (hb : b ≠ it) (e : h.get? b = some o) : (h.hide it).get? b = some o := (Heap.hide_ne h hb).trans e
theorem Led.hide {h h₁ : Heap} {L it : Addr} {m : Str → Option Value} {o : Obj} (D : Led h L h₁ m []) (ho : h.get? it = some o) : Led (h.hide it) L h₁ m [(it, o)] := by
  refine ⟨⟨D.F.ns, fun b x e => D.F.keep b x (Heap.of_hide e), by rw [Heap.hide_size]; exact D.F.above⟩, ?_, by simp⟩
  intro p hp
  rcases List.mem_singleton.mp hp with rfl
  exact ⟨D.F.keep _ _ ho, Nat.ne_of_lt (Nat.lt_of_lt_of_le (Heap.lt_size ho) D.F.above), Heap.hide_self h it⟩

section
variable {w : World} {A : Around} {R : Result → Shared → Prop} {E : Value → Shared → Prop} {h hb base : Heap} {g : Array GenState} {d : Drawn} {t : Nat} {os : OsState} {env : Env} {outer : List Env}
/-- a list iterator stands -/
abbrev LI (h : Heap) (it l : Addr) (i : Nat) : Prop := h.IsListIter it l i

theorem below_hide {it l : Addr} {i : Nat} (K : Below A base outer h) (hit : LI h it l i) (hbase : base.get? it = none) : Below A base outer (h.hide it) := by
  obtain ⟨o, ho, _, hd⟩ := hit
  refine ⟨K.stack, fun b x e => hide_get (fun z => by rw [z, hbase] at e; cases e) (K.stays b x e), K.frames.of_keeps fun b x e hn => ⟨x, hide_get (fun z => ?_) e, rfl⟩⟩
  rw [z, ho] at e; cases e; exact hn _ hd

theorem raw_of {it l : Addr} {i : Nat} {h₂ h₃ : Heap} {L a e : Addr} {m : Str → Option Value} {cn : Str} {sc : Scope} {ccd : Value} (K : Below A base outer (h.hide it)) (hbase : base.get? it = none) (F : Fr (h.hide it) L h₂ m) (hit : LI h₂ it l i)
    (he : Heap.ExtBut it h₂ h₃) (hn : h₂.get? e = none) (hx : ∃ oe vs a0, h₃.get? e = some oe ∧ oe.cls = .type "StopIteration" ∧ oe.data = .fields vs ∧ vs[1]? = some .none ∧ vs[0]? = some a0) (hk : sc.kind = .function := by rfl) :
    ∃ a0, RawW base (envOf cn sc L a ccd :: outer) e (.type "StopIteration") a0 h₃ ∧ h₂.UpToSlots h₃ := by
  obtain ⟨o, ho, _, hd⟩ := hit
  obtain ⟨oe, vs, a0, x1, x2, x3, x4, x5⟩ := hx
  have K' := K.push (name := cn) (a := a) (cd := ccd) F hk
  have nf : ∀ b x, h₂.get? b = some x → (∀ vs, x.data ≠ .fields vs) → b ≠ it := fun b x q hn z => by rw [z, ho] at q; cases q; exact hn _ hd
  refine ⟨a0, ⟨fun b x q => he b x (fun z => by rw [z, hbase] at q; cases q) (K'.stays b x q), fresh_of_stays K'.stays hn, K'.frames.of_keeps fun b x q hn => ⟨x, he b x (nf b x q hn) q, rfl⟩, oe, vs, x1, x2, x3, x4, x5⟩, fun b x q hn => ⟨x.slots, he b x (nf b x q hn) q⟩⟩

theorem slots_of {it l : Addr} {i : Nat} {h₂ : Heap} {L : Addr} {m : Str → Option Value} (F : Fr (h.hide it) L h₂ m) (hit : LI h it l i) : h.UpToSlots h₂ := by
  obtain ⟨o, ho, _, hd⟩ := hit
  exact fun b x q hn => ⟨x.slots, F.keep b x (hide_get (fun z => by rw [z, ho] at q; cases q; exact hn _ hd) q)⟩

set_option maxRecDepth 20000 in
theorem parse_1 {it l : Addr} {i : Nat} {items : Array Value} {u : Tok} (B : Base w hb) (kb : ∀ b o, hb.get? b = some o → h.get? b = some o) (hs : hb.objs.size ≤ h.objs.size) (hbi : hb.get? it = none)
    (hroom : A.depth < recursionLimit) (hit : LI h it l i) (hl : h.IsList l items) (hx : items[i]? = some (.int 46 u))
    (k : ∀ h' tk u, t ≤ tk → (∀ b o, b ≠ it → h.get? b = some o → h'.get? b = some o) → LI h' it l (i + 1) → R (.ok (.ret (.int 46 u))) ⟨h', g, d, tk, os⟩) :
    codeAny (model PP w) A (.call (.ref 45) ⟨[.ref it], []⟩) R ⟨h, g, d, t, os⟩ := by
  have B' := B.keeps kb
  have ho := B'.X 45 _ rfl
  refine ent_ B' hroom ho (by kernel_rfl) rfl rfl fun h₁ tk hT D => ?_
  clear ho
  obtain ⟨oi, hoi, hc, hd⟩ := id hit
  have kb' : ∀ b o, hb.get? b = some o → (h.hide it).get? b = some o := fun b o e => hide_get (fun z => by rw [z, hbi] at e; cases e) (kb b o e)
  have hs' : hb.objs.size ≤ (h.hide it).objs.size := by rw [Heap.hide_size]; exact hs
  replace D := D.hide hoi
  have hne : l ≠ it := fun z => by
    obtain ⟨ol, hol, hcl, _⟩ := hl
    rw [z, hoi] at hol; cases hol; exact absurd (hc.symm.trans hcl) (by simp)
  have hl1 : h₁.IsList l items := let ⟨ol, hol, r⟩ := hl; ⟨ol, D.F.keep _ _ (hide_get hne hol), r⟩
  refine wpAny_execs_cons (asg_ (nxt_ D kb' hs' B (by walk_at "lk") ⟨oi, D.get0, hc, hd⟩ hl1 (fun v h₂ o' hv hit' hk2 D => ?_) (fun z => by rw [hx] at z; cases z) (fun _ _ z => by rw [hx] at z; cases z)))
  rw [hx] at hv; cases hv
  obtain ⟨oi2, e2, c2, d2⟩ := hit'
  obtain rfl : o' = oi2 := Option.some.inj (D.get0.symm.trans e2)
  refine sn_ D fun h₃ tk3 hT3 D => ?_
  refine wpAny_execs_cons (asg_ (wpAny_BinOp (ln_ D (v := .int 46 u) (by walk_at "lk") (ci_ fun u4 tk4 hT4 => andi_ fun u5 tk5 hT5 => sn_ D fun h₆ tk6 hT6 D => ?_))))
  rw [show Builtin.bitAnd 46 63 = 46 from by decide] at D
  refine wpAny_execs_cons (wpAny_While (while2_ (P := fun _ => False) ?_ fun _ z => z.elim))
  refine wpAny_isTrue_value (wpAny_BinOp (ln_ D (v := .int 46 u) (by walk_at "lk") (ci_ fun u7 tk7 hT7 => andi_ fun u8 tk8 hT8 => truthy_int ?_)))
  rw [show (Builtin.bitAnd 46 64 != 0) = false from by decide, if_neg (by decide)]
  refine wpAny_execs_cons (wpAny_Return_some (ln_ D (v := .int 46 u5) (by walk_at "lk") ?_))
  exact k _ _ _ (by omega) (fun b o hb e => D.F.keep b o (hide_get hb e)) ⟨_, D.get0, c2, d2⟩
end
end Mine

end
section
open PySem PySem.W PyProof.Rows PySem.Calls
namespace Mine
local macro_rules | `(tactic| walk_at "lk") => `(tactic| first | assumption | exact if_pos rfl | (refine (if_neg (by decide)).trans ?_; walk_at "lk") | rfl)

section
variable {w : World} {A : Around} {R : Result → Shared → Prop} {h hb base : Heap} {g : Array GenState} {d : Drawn} {t : Nat} {os : OsState} {outer : List Env}
theorem rl_ {it l : Addr} {i : Nat} {h₂ h₃ : Heap} {L a e : Addr} {m : Str → Option Value} {cn : Str} {sc : Scope} {ccd : Value} {tk : Nat} {E : Value → Shared → Prop} {Q : Unit → Shared → Prop} (K : Below A base outer (h.hide it)) (hbase : base.get? it = none) (F : Fr (h.hide it) L h₂ m) (hit : LI h₂ it l i)
    (he : Heap.ExtBut it h₂ h₃) (hn : h₂.get? e = none) (hx : ∃ oe vs a0, h₃.get? e = some oe ∧ oe.cls = .type "StopIteration" ∧ oe.data = .fields vs ∧ vs[1]? = some .none ∧ vs[0]? = some a0)
    (hQ : ∀ h' a0, Heap.FlyingW base outer e (.type "StopIteration") a0 h' → h₂.UpToSlots h' → Q () ⟨h', g, d, tk, os⟩) (hk : sc.kind = .function := by rfl) :
    wpAny (model PP w) (A.deeper (envOf cn sc L a ccd)) (leaving (envOf cn sc L a ccd) (.ref e)) Q E ⟨h₃, g, d, tk, os⟩ := by
  obtain ⟨a0, hraw, hup⟩ := raw_of (cn := cn) (a := a) (ccd := ccd) K hbase F hit he hn hx hk
  exact raw_leave (s := ⟨h₃, g, d, tk, os⟩) (Around.frames_deeper K.stack) rfl hraw fun h' hfl hup2 => hQ h' a0 hfl (hup.trans hup2)
theorem rn_ {it l : Addr} {i : Nat} {h₂ h₃ : Heap} {L a e : Addr} {m : Str → Option Value} {cn : Str} {sc : Scope} {ccd : Value} {tk : Nat} {E : Value → Shared → Prop} {Q : Unit → Shared → Prop} (K : Below A base outer (h.hide it)) (hbase : base.get? it = none) (F : Fr (h.hide it) L h₂ m) (hit : LI h₂ it l i)
    (he : Heap.ExtBut it h₂ h₃) (hn : h₂.get? e = none) (hx : ∃ oe vs a0, h₃.get? e = some oe ∧ oe.cls = .type "StopIteration" ∧ oe.data = .fields vs ∧ vs[1]? = some .none ∧ vs[0]? = some a0)
    (hQ : ∀ h' a0, Heap.HeldW base (envOf cn sc L a ccd :: outer) e (.type "StopIteration") a0 L h' → h₂.UpToSlots h' → Q () ⟨h', g, d, tk, os⟩) (hk : sc.kind = .function := by rfl) :
    wpAny (model PP w) (A.deeper (envOf cn sc L a ccd)) (noteFrame (.ref e) (envOf cn sc L a ccd)) Q E ⟨h₃, g, d, tk, os⟩ := by
  obtain ⟨a0, hraw, hup⟩ := raw_of (cn := cn) (a := a) (ccd := ccd) K hbase F hit he hn hx hk
  exact raw_note (s := ⟨h₃, g, d, tk, os⟩) (Around.frames_deeper K.stack) rfl hraw fun h' hfl hup2 => hQ h' a0 hfl (hup.trans hup2)
set_option maxRecDepth 20000 in
theorem parse_2 {it l : Addr} {i : Nat} {items : Array Value} {u v : Tok} (B : Base w hb) (kb : ∀ b o, hb.get? b = some o → h.get? b = some o) (hs : hb.objs.size ≤ h.objs.size) (hbi : hb.get? it = none)
    (hroom : A.depth < recursionLimit) (hit : LI h it l i) (hl : h.IsList l items) (hx : items[i]? = some (.int 92 u)) (hx2 : items[i + 1]? = some (.int 46 v))
    (k : ∀ h' tk u, t ≤ tk → (∀ b o, b ≠ it → h.get? b = some o → h'.get? b = some o) → LI h' it l (i + 2) → R (.ok (.ret (.int 1838 u))) ⟨h', g, d, tk, os⟩) :
    codeAny (model PP w) A (.call (.ref 45) ⟨[.ref it], []⟩) R ⟨h, g, d, t, os⟩ := by
  have B' := B.keeps kb
  have ho := B'.X 45 _ rfl
  refine ent_ B' hroom ho (by kernel_rfl) rfl rfl fun h₁ tk hT D => ?_
  clear ho
  obtain ⟨oi, hoi, hc, hd⟩ := id hit
  have kb' : ∀ b o, hb.get? b = some o → (h.hide it).get? b = some o := fun b o e => hide_get (fun z => by rw [z, hbi] at e; cases e) (kb b o e)
  have hs' : hb.objs.size ≤ (h.hide it).objs.size := by rw [Heap.hide_size]; exact hs
  replace D := D.hide hoi
  have hne : l ≠ it := fun z => by
    obtain ⟨ol, hol, hcl, _⟩ := hl
    rw [z, hoi] at hol; cases hol; exact absurd (hc.symm.trans hcl) (by simp)
  have hl1 : h₁.IsList l items := let ⟨ol, hol, r⟩ := hl; ⟨ol, D.F.keep _ _ (hide_get hne hol), r⟩
  refine wpAny_execs_cons (asg_ (nxt_ D kb' hs' B (by walk_at "lk") ⟨oi, D.get0, hc, hd⟩ hl1 (fun y h₂ o' hv hit' hk2 D => ?_) (fun z => by rw [hx] at z; cases z) (fun _ _ z => by rw [hx] at z; cases z)))
  rw [hx] at hv; cases hv
  obtain ⟨oi2, e2, c2, d2⟩ := hit'
  obtain rfl : o' = oi2 := Option.some.inj (D.get0.symm.trans e2)
  refine sn_ D fun h₃ tk3 hT3 D => ?_
  refine wpAny_execs_cons (asg_ (wpAny_BinOp (ln_ D (v := .int 92 u) (by walk_at "lk") (ci_ fun u4 tk4 hT4 => andi_ fun u5 tk5 hT5 => sn_ D fun h₆ tk6 hT6 D => ?_))))
  rw [show Builtin.bitAnd 92 63 = 28 from by decide] at D
  have hl6 : h₆.IsList l items := let ⟨ol, hol, r⟩ := hl; ⟨ol, D.F.keep _ _ (hide_get hne hol), r⟩
  refine wpAny_execs_cons (wpAny_While (while2_ (P := fun s => ∃ h' tk u m o', s = ⟨h', g, d, tk, os⟩ ∧ t ≤ tk ∧ Led (h.hide it) h.objs.size h' m [(it, o')] ∧ LI h' it l (i + 2) ∧ m "b" = some (.int 46 v) ∧ m "val" = some (.int 1838 u)) ?_ ?_))
  · refine wpAny_isTrue_value (wpAny_BinOp (ln_ D (v := .int 92 u) (by walk_at "lk") (ci_ fun u7 tk7 hT7 => andi_ fun u8 tk8 hT8 => truthy_int ?_)))
    rw [show (Builtin.bitAnd 92 64 != 0) = true from by decide, if_pos rfl]
    refine wpAny_execs_cons (wpAny_AugAssign_Name (lnl_ D (v := .int 28 u5) (by walk_at "lk") (ci_ fun u9 tk9 hT9 => ishl_ (by decide) (by decide +kernel) fun u10 tk10 hT10 => sn_ D fun h₁₁ tk11 hT11 D => ?_)))
    rw [show (28 : Int) * 2 ^ (Int.toNat 6) = 1792 from by decide] at D
    have hl11 : h₁₁.IsList l items := let ⟨ol, hol, r⟩ := hl; ⟨ol, D.F.keep _ _ (hide_get hne hol), r⟩
    refine wpAny_execs_cons (asg_ (nxt_ D kb' hs' B (by walk_at "lk") ⟨o', D.get0, c2, d2⟩ hl11 (fun y h₁₂ o'' hv hit' hk2 D => ?_) (fun z => by rw [hx2] at z; cases z) (fun _ _ z => by rw [hx2] at z; cases z)))
    rw [hx2] at hv; cases hv
    obtain ⟨oi3, e3, c3, d3⟩ := hit'
    obtain rfl : o'' = oi3 := Option.some.inj (D.get0.symm.trans e3)
    refine sn_ D fun h₁₃ tk13 hT13 D => ?_
    refine wpAny_execs_cons (wpAny_AugAssign_Name (lnl_ D (v := .int 1792 u10) (by walk_at "lk") (wpAny_BinOp (ln_ D (v := .int 46 v) (by walk_at "lk") (ci_ fun u14 tk14 hT14 => andi_ fun u15 tk15 hT15 => iori_ fun u16 tk16 hT16 => sn_ D fun h₁₇ tk17 hT17 D => ?_)))))
    rw [show Builtin.bitOr 1792 (Builtin.bitAnd 46 63) = 1838 from by decide] at D
    refine xn_ ⟨h₁₇, tk17, u16, _, o'', rfl, by omega, D, ⟨_, D.get0, c3, d3⟩, by walk_at "lk", by walk_at "lk"⟩
  · rintro s ⟨h', tk', u', m', o3, rfl, hT', D, hit3, e1, e2⟩
    refine wpAny_isTrue_value (wpAny_BinOp (ln_ D (v := .int 46 v) e1 (ci_ fun u7 tk7 hT7 => andi_ fun u8 tk8 hT8 => truthy_int ⟨by decide, ?_⟩)))
    refine wpAny_execs_cons (wpAny_Return_some (ln_ D (v := .int 1838 u') e2 ?_))
    exact k _ _ _ (by omega) (fun b o hb e => D.F.keep b o (hide_get hb e)) hit3

set_option maxRecDepth 20000 in
theorem parse_3 {it l : Addr} {i : Nat} {items : Array Value} (B : Base w hb) (kb : ∀ b o, hb.get? b = some o → h.get? b = some o) (hs : hb.objs.size ≤ h.objs.size) (hbi : hb.get? it = none)
    (hroom : A.depth < recursionLimit) (hit : LI h it l i) (hl : h.IsList l items) (hA : A.handled = none) (K : Below A base outer h) (hbase : base.get? it = none) (hx : items[i]? = none)
    (k : ∀ h' tk e a0, t ≤ tk → Heap.FlyingW base outer e (.type "StopIteration") a0 h' → h.UpToSlots h' → R (.error (.ref e)) ⟨h', g, d, tk, os⟩) :
    codeAny (model PP w) A (.call (.ref 45) ⟨[.ref it], []⟩) R ⟨h, g, d, t, os⟩ := by
  have B' := B.keeps kb
  have ho := B'.X 45 _ rfl
  refine entE_ B' hroom ho (by kernel_rfl) rfl rfl fun h₁ tk hT D => ?_
  clear ho
  obtain ⟨oi, hoi, hc, hd⟩ := id hit
  have kb' : ∀ b o, hb.get? b = some o → (h.hide it).get? b = some o := fun b o e => hide_get (fun z => by rw [z, hbi] at e; cases e) (kb b o e)
  have hs' : hb.objs.size ≤ (h.hide it).objs.size := by rw [Heap.hide_size]; exact hs
  replace D := D.hide hoi
  have hne : l ≠ it := fun z => by
    obtain ⟨ol, hol, hcl, _⟩ := hl
    rw [z, hoi] at hol; cases hol; exact absurd (hc.symm.trans hcl) (by simp)
  have hl1 : h₁.IsList l items := let ⟨ol, hol, r⟩ := hl; ⟨ol, D.F.keep _ _ (hide_get hne hol), r⟩
  have Kh := below_hide K hit hbase
  refine wpAny_execs_cons (asg_ (nxt_ D kb' hs' B (by walk_at "lk") ⟨oi, D.get0, hc, hd⟩ hl1 (fun y h₂ o' hv hit' hk2 D => by rw [hx] at hv; cases hv) (fun _ => hA) (fun h₂ e _ he hn hxx => ?_)))
  refine rl_ Kh hbase D.F ⟨oi, D.get0, hc, hd⟩ he hn hxx fun h₃ a0 hfl hup => ?_
  exact k _ _ _ _ hT hfl ((slots_of D.F hit).trans hup)

set_option maxRecDepth 20000 in
theorem parse_4 {it l : Addr} {i : Nat} {items : Array Value} {u : Tok} (B : Base w hb) (kb : ∀ b o, hb.get? b = some o → h.get? b = some o) (hs : hb.objs.size ≤ h.objs.size) (hbi : hb.get? it = none)
    (hroom : A.depth < recursionLimit) (hit : LI h it l i) (hl : h.IsList l items) (hA : A.handled = none) (K : Below A base outer h) (hbase : base.get? it = none) (hx : items[i]? = some (.int 92 u)) (hx2 : items[i + 1]? = none)
    (k : ∀ h' tk e a0, t ≤ tk → Heap.FlyingW base outer e (.type "StopIteration") a0 h' → h.UpToSlots h' → R (.error (.ref e)) ⟨h', g, d, tk, os⟩) :
    codeAny (model PP w) A (.call (.ref 45) ⟨[.ref it], []⟩) R ⟨h, g, d, t, os⟩ := by
  have B' := B.keeps kb
  have ho := B'.X 45 _ rfl
  refine entE_ B' hroom ho (by kernel_rfl) rfl rfl fun h₁ tk hT D => ?_
  clear ho
  obtain ⟨oi, hoi, hc, hd⟩ := id hit
  have kb' : ∀ b o, hb.get? b = some o → (h.hide it).get? b = some o := fun b o e => hide_get (fun z => by rw [z, hbi] at e; cases e) (kb b o e)
  have hs' : hb.objs.size ≤ (h.hide it).objs.size := by rw [Heap.hide_size]; exact hs
  replace D := D.hide hoi
  have hne : l ≠ it := fun z => by
    obtain ⟨ol, hol, hcl, _⟩ := hl
    rw [z, hoi] at hol; cases hol; exact absurd (hc.symm.trans hcl) (by simp)
  have hl1 : h₁.IsList l items := let ⟨ol, hol, r⟩ := hl; ⟨ol, D.F.keep _ _ (hide_get hne hol), r⟩
  have Kh := below_hide K hit hbase
  refine wpAny_execs_cons (asg_ (nxt_ D kb' hs' B (by walk_at "lk") ⟨oi, D.get0, hc, hd⟩ hl1 (fun y h₂ o' hv hit' hk2 D => ?_) (fun z => by rw [hx] at z; cases z) (fun _ _ z => by rw [hx] at z; cases z)))
  rw [hx] at hv; cases hv
  obtain ⟨oi2, e2, c2, d2⟩ := hit'
  obtain rfl : o' = oi2 := Option.some.inj (D.get0.symm.trans e2)
  refine sn_ D fun h₃ tk3 hT3 D => ?_
  refine wpAny_execs_cons (asg_ (wpAny_BinOp (ln_ D (v := .int 92 u) (by walk_at "lk") (ci_ fun u4 tk4 hT4 => andi_ fun u5 tk5 hT5 => sn_ D fun h₆ tk6 hT6 D => ?_))))
  rw [show Builtin.bitAnd 92 63 = 28 from by decide] at D
  refine wpAny_execs_cons (wpAny_While (while2_ (P := fun _ => False) ?_ fun _ z => z.elim))
  refine wpAny_isTrue_value (wpAny_BinOp (ln_ D (v := .int 92 u) (by walk_at "lk") (ci_ fun u7 tk7 hT7 => andi_ fun u8 tk8 hT8 => truthy_int ?_)))
  rw [show (Builtin.bitAnd 92 64 != 0) = true from by decide, if_pos rfl]
  refine wpAny_execs_cons (wpAny_AugAssign_Name (lnl_ D (v := .int 28 u5) (by walk_at "lk") (ci_ fun u9 tk9 hT9 => ishl_ (by decide) (by decide +kernel) fun u10 tk10 hT10 => sn_ D fun h₁₁ tk11 hT11 D => ?_)))
  have hl11 : h₁₁.IsList l items := let ⟨ol, hol, r⟩ := hl; ⟨ol, D.F.keep _ _ (hide_get hne hol), r⟩
  refine wpAny_execs_cons (asg_ (nxt_ D kb' hs' B (by walk_at "lk") ⟨o', D.get0, c2, d2⟩ hl11 (fun y h₁₂ o'' hv hit' hk2 D => by rw [hx2] at hv; cases hv) (fun _ => hA) (fun h₁₂ e _ he hn hxx => ?_)))
  refine rn_ Kh hbase D.F ⟨o', D.get0, c2, d2⟩ he hn hxx fun h₁₃ a0 hh hup => ?_
  refine held_back (s := ⟨h₁₃, g, d, _, os⟩) rfl hh fun h₁₄ hh hup3 => ?_
  refine held_leave (s := ⟨h₁₄, g, d, _, os⟩) rfl hh fun h₁₅ hfl hup4 => ?_
  exact k _ _ _ _ (show t ≤ tk11 by omega) hfl ((((slots_of D.F hit).trans hup).trans hup3).trans hup4)
end
end Mine

end
section
open PySem PySem.W PyProof.Rows PySem.Calls
namespace Mine

section
variable {w : World} {A : Around} {R : Result → Shared → Prop} {E : Value → Shared → Prop} {h₀ h : Heap} {g : Array GenState} {d : Drawn} {t : Nat} {os : OsState} {env : Env} {m : Str → Option Value} {cs : List (Addr × Obj)}

/-- names, in any frame -/
theorem gln_ {x : Str} {pos : Pos} {v : Value} {Q : Value → Shared → Prop} (D : Led h₀ env.locals h m cs) (hv : m x = some v) (k : Q v ⟨h, g, d, t, os⟩)
    (hk : env.scope.kind = .function := by rfl) (hl : env.kindOf x = some .local := by rfl) (hd : (x == ("__debug__" : Str)) = false := by decide) :
    wpAny (model PP w) A (eval (.Name x pos) env) Q E ⟨h, g, d, t, os⟩ := wpAny_Name (s := ⟨h, g, d, t, os⟩) (wpAny_loadName_local hk hl D.F.ns hv k) hd
theorem ggl_ {x : Str} {pos : Pos} {v : Value} {Q : Value → Shared → Prop} {L : Addr} (D : Led h₀ L h m cs) (B : Base w h₀) (e : nsIn (KK w) mainGlobals x = some (some v)) (k : Q v ⟨h, g, d, t, os⟩)
    (hg : env.globals = mainGlobals := by rfl) (hk : env.scope.kind = .function := by rfl) (hx : env.kindOf x = some .globalImplicit := by rfl) (hd : (x == ("__debug__" : Str)) = false := by decide) :
    wpAny (model PP w) A (eval (.Name x pos) env) Q E ⟨h, g, d, t, os⟩ :=
  let ⟨_, _, _, _, T⟩ := B.T
  Name_function_global (s := ⟨h, g, d, t, os⟩) hk hx (loadGlobal_global (env := env) (by rw [hg]; exact T.g.keeps D.F.keep) (mg_of B.X T.g e) k) hd
theorem gbn_ {x : Str} {pos : Pos} {v : Value} {Q : Value → Shared → Prop} {L : Addr} (D : Led h₀ L h m cs) (B : Base w h₀) (e : nsIn (KK w) mainGlobals x = some none) (hv : bootBuiltins x = some v) (hn : x ≠ "__name__") (k : Q v ⟨h, g, d, t, os⟩)
    (hg : env.globals = mainGlobals := by rfl) (hb : env.builtins = builtinsNs := by rfl) (hk : env.scope.kind = .function := by rfl) (hx : env.kindOf x = some .globalImplicit := by rfl) (hd : (x == ("__debug__" : Str)) = false := by decide) :
    wpAny (model PP w) A (eval (.Name x pos) env) Q E ⟨h, g, d, t, os⟩ :=
  let ⟨_, _, _, _, T⟩ := B.T
  Name_function_global (s := ⟨h, g, d, t, os⟩) hk hx (loadGlobal_builtin (env := env) (by rw [hg]; exact T.g.keeps D.F.keep) (mg_none_of B.X T.g e) (by rw [hb]; exact T.b.keeps D.F.keep) ((T.builtins x hn).trans hv) k) hd
theorem gsn_ {x : Str} {v : Value} {Q : Unit → Shared → Prop} (D : Led h₀ env.locals h m cs)
    (k : ∀ h' tk, t ≤ tk → Led h₀ env.locals h' (fun y => if y = x then some v else m y) cs → Q () ⟨h', g, d, tk, os⟩)
    (hk : env.scope.kind = .function := by rfl) (hl : env.kindOf x = some .local := by rfl) :
    wpAny (model PP w) A (storeName env x v) Q E ⟨h, g, d, t, os⟩ :=
  wpAny_storeName_local (s := ⟨h, g, d, t, os⟩) hl D.F.ns (fun h' hn hs => k h' _ (Nat.le_succ _) (D.set hn hs)) (by rw [hk]; rfl)

/-- the tests of a clause -/
abbrev tests (ifs : List Expr) (env : Env) : Sem Bool := forIn ifs true fun c r => if r = true then do let ok ← isTrue c env (eval c env); pure (ForInStep.yield ok) else pure (ForInStep.yield r)

/-- one level of a comprehension -/
theorem cl_ {elt : Expr} {gens : List Comprehension} {scope : Scope} {pos : Pos} {dep : Nat} {I : Addr} {acc : Value} {fp : List Addr} {n : Nat} {P : Nat → Tok → Value → Prop} {St : Nat → Heap → Prop} {x : Str} {px p0 : Pos} {ifs : List Expr} {emit : Sem Unit} {o : Obj}
    (hturn : compTurn (.ListComp elt gens scope pos) dep (.ref I) acc env = (do
      standAt p0
      match ← pyNext (.ref I) with
      | none => pure (.done .next)
      | some v =>
        letOwnedTupleGo (.Name x px) (.ref I) v
        assign (.Name x px) env v
        let ok ← tests ifs env
        if ok = true then emit
        again (.compLoop (.ListComp elt gens scope pos) dep (.ref I) acc env)))
    (W : WalkK PP w A I fp n P St) (hx : env.kindOf x = some .local) (hkd : env.scope.kind = .function)
    (Inv : Nat → (Str → Option Value) → List (Addr × Obj) → Prop)
    (hfp : ∀ b ∈ fp, b ≠ I → (∃ o, h₀.get? b = some o) ∨ ∃ o, ∀ i m cs, Inv i m cs → (b, o) ∈ cs)
    (hLf : env.locals ∉ fp) (D : Led h₀ env.locals h m ((I, o) :: cs)) (hst : St 0 h) (h0 : Inv 0 m cs) (hob : ∀ i h, St i h → ∃ o, h.get? I = some o)
    (turn : ∀ i v u m₁ cs₁ o₁ h tk, t ≤ u → u ≤ tk → i < n → P i u v → Inv i m₁ cs₁ → Led h₀ env.locals h (fun y => if y = x then some v else m₁ y) ((I, o₁) :: cs₁) →
      wpAny (model PP w) A (tests ifs env) (fun ok s₂ => if ok = true then wpAny (model PP w) A emit (fun _ s₃ => ∃ h' tk' m' cs', s₃ = ⟨h', g, d, tk', os⟩ ∧ Led h₀ env.locals h' m' ((I, o₁) :: cs') ∧ Inv (i + 1) m' cs') NoE s₂
        else ∃ h' tk' m' cs', s₂ = ⟨h', g, d, tk', os⟩ ∧ Led h₀ env.locals h' m' ((I, o₁) :: cs') ∧ Inv (i + 1) m' cs') NoE ⟨h, g, d, tk, os⟩)
    (done : ∀ h tk m₁ cs₁, t ≤ tk → Inv n m₁ cs₁ → Led h₀ env.locals h m₁ cs₁ → R (.ok .next) ⟨h, g, d, tk, os⟩) :
    codeAny (model PP w) A (.compLoop (.ListComp elt gens scope pos) dep (.ref I) acc env) R ⟨h, g, d, t, os⟩ := by
  have hp : (env.scope.kind == .class || (env.scope.kind == .module && env.locals != env.globals)) = false := by rw [hkd]; rfl
  refine codeAny_loop rfl
    (fun k s' => ∃ h' tk m' cs' o' i, t ≤ tk ∧ s' = ⟨h', g, d, tk, os⟩ ∧ St i h' ∧ Led h₀ env.locals h' m' ((I, o') :: cs') ∧ Inv i m' cs' ∧ i ≤ n ∧ k = n + 1 - i) ?_ (n + 1)
    ⟨h, t, m, cs, o, 0, Nat.le_refl _, rfl, hst, D, h0, Nat.zero_le _, rfl⟩
  rintro k s' ⟨h', tk, m', cs', o', i, hT, rfl, hst', D', hI, hi, rfl⟩
  show wpAny _ A ((compTurn (.ListComp elt gens scope pos) dep (.ref I) acc env).onRaise (fun x => do noteFrame x env; theTreesLotGoes x)) _ _ _
  refine wpAny_noted ?_
  rw [hturn]
  refine wpAny_bind (wpAny_standAt (wpAny_bind ?_))
  by_cases hlt : i < n
  · refine W.item i ⟨h', g, d, tk, os⟩ _ _ hlt hst' fun v h₁ tk₁ hP hU hst₁ hk₁ => ?_
    have hT₁ : t ≤ tk₁ := Nat.le_trans hT hU
    obtain ⟨o₁, ho₁⟩ := hob _ _ hst₁
    have D₁ : Led h₀ env.locals h₁ m' ((I, o₁) :: cs') := D'.upd hk₁ ho₁
    refine wpAny_bind (wpAny_of_eq (a := ()) rfl ?_)
    refine wpAny_bind (wpAny_assign_Name (wpAny_storeName_local hx D₁.F.ns (fun h₂ hn₂ hs₂ => ?_) hp))
    have D₂ := D₁.set hn₂ hs₂
    have hst₂ : St (i + 1) h₂ := W.frame _ _ _ hst₁ fun b hb o e => (hs₂.2 b fun q => hLf (q ▸ hb)).trans e
    have fin : ∀ s₃ : Shared, (∃ h' tk' m' cs', s₃ = ⟨h', g, d, tk', os⟩ ∧ Led h₀ env.locals h' m' ((I, o₁) :: cs') ∧ Inv (i + 1) m' cs') → t ≤ s₃.toks → ∃ k', k' < n + 1 - i ∧
        ∃ h' tk m' cs' o' j, t ≤ tk ∧ s₃ = ⟨h', g, d, tk, os⟩ ∧ St j h' ∧ Led h₀ env.locals h' m' ((I, o') :: cs') ∧ Inv j m' cs' ∧ j ≤ n ∧ k' = n + 1 - j := by
      rintro s₃ ⟨h₄, tk₄, m₃, cs₃, e₄, D₃, I₃⟩ hT₃
      refine ⟨n + 1 - (i + 1), by omega, h₄, tk₄, m₃, cs₃, o₁, i + 1, by rw [e₄] at hT₃; exact hT₃, e₄, ?_, D₃, I₃, hlt, rfl⟩
      refine W.frame _ _ _ hst₂ fun b hb o e => ?_
      by_cases hbI : b = I
      · subst hbI
        rw [D₂.get0] at e; cases e
        exact D₃.get0
      · rcases hfp b hb hbI with ⟨o₀, e₀⟩ | ⟨o₀, hin⟩
        · rw [D₂.old e₀] at e; cases e; exact D₃.old e₀
        · rw [D₂.get (.tail _ (hin _ _ _ hI))] at e; cases e
          exact D₃.get (.tail _ (hin _ _ _ I₃))
    refine wpAny_bind (wpAny_mono (wpAny_toks_of (n := t) (Nat.le_succ_of_le hT₁) (turn i v _ m' cs' o₁ h₂ _ hT (Nat.le_succ_of_le hU) hlt hP hI D₂)) (fun ok s₃ h₃ => ?_) fun _ _ e => e.2.elim)
    obtain ⟨hT₃, h₃⟩ := h₃
    cases ok with
    | true =>
      simp only [if_true] at h₃ ⊢
      refine wpAny_bind (wpAny_mono (wpAny_toks_of hT₃ h₃) (fun _ s₄ h₄ => ?_) fun _ _ e => e.2.elim)
      exact wpAny_pure ⟨rfl, fin s₄ h₄.2 h₄.1⟩
    | false =>
      simp only [Bool.false_eq_true, if_false] at h₃ ⊢
      exact wpAny_pure ⟨rfl, fin s₃ h₃ hT₃⟩
  · have hin : i = n := by omega
    subst hin
    refine W.done ⟨h', g, d, tk, os⟩ _ _ hst' fun h₁ tk₁ hU hk₁ => wpAny_pure ?_
    exact done h₁ tk₁ m' cs' (Nat.le_trans hT hU) hI (D'.lose hk₁)
end
end Mine

end
section
open PySem PySem.W PyProof.Rows PySem.Calls
namespace Mine

/-- what a block leaves, seen from the frame about it -/
theorem Led.out {h₀ h hh h'' : Heap} {L C : Addr} {m m2 : Str → Option Value} {cs csb : List (Addr × Obj)} (D : Led h₀ L h m cs) (Db : Led h C hh m2 csb)
    (hs : ∀ b o, b ≠ C → hh.get? b = some o → h''.get? b = some o) : Led h₀ L h'' m (csb ++ cs) := by
  have hC : ∀ b o, h.get? b = some o → b ≠ C := fun b o e => Nat.ne_of_lt (Nat.lt_of_lt_of_le (Heap.lt_size e) Db.F.above)
  have up : ∀ b o, h.get? b = some o → h''.get? b = some o := fun b o e => hs b o (hC b o e) (Db.F.keep b o e)
  have D' := D.keep up
  refine ⟨D'.F, fun p hp => ?_, ?_⟩
  · rcases List.mem_append.mp hp with hp | hp
    · have H := Db.N p hp
      refine ⟨hs _ _ H.2.1 H.1, fun q => ?_, ?_⟩
      · obtain ⟨_, _, _, hL, _⟩ := D.F.ns
        rw [q, hL] at H; cases H.2.2
      · cases q : h₀.get? p.1 with
        | none => rfl
        | some o₀ => have := D.F.keep _ _ q; rw [H.2.2] at this; cases this
    · exact D'.N p hp
  · rw [List.map_append, List.nodup_append]
    refine ⟨Db.nd, D.nd, fun a ha b hb q => ?_⟩
    obtain ⟨p, hp, rfl⟩ := List.mem_map.mp ha
    obtain ⟨p', hp', e'⟩ := List.mem_map.mp hb
    have h1 := (Db.N p hp).2.2
    have h2 := (D.N p' hp').1
    rw [e', ← q, h1] at h2; cases h2

section
variable {w : World} {A : Around} {R : Result → Shared → Prop} {E : Value → Shared → Prop} {h₀ h h' : Heap} {g : Array GenState} {d : Drawn} {t : Nat} {os : OsState} {env : Env} {L : Addr} {m : Str → Option Value} {cs : List (Addr × Obj)}

/-- the list's append of a comprehension with one clause -/
abbrev emit1 (a : Addr) (elt : Expr) (env : Env) : Sem Unit := do let _ ← call (.builtin "list.append") [.ref a, ← eval elt env]
theorem emit1_ {a : Addr} {elt : Expr} {Q : Unit → Shared → Prop} {s : Shared}
    (k : wpAny (model PP w) A (eval elt env) (fun y s₁ => ∃ hh tk h₀ C m cs vs n, s₁ = ⟨hh, g, d, tk, os⟩ ∧ Led h₀ C hh m ((a, lstN vs n) :: cs) ∧ vs.length ≤ sizeLine ∧
      ∀ hh', Led h₀ C hh' m ((a, lstN (vs ++ [y]) (n + 1)) :: cs) → Q () ⟨hh', g, d, tk, os⟩) E s) :
    wpAny (model PP w) A (emit1 a elt env) Q E s := by
  refine wpAny_bind (wpAny_mono k (fun y s₁ h₁ => ?_) fun _ _ x => x)
  obtain ⟨hh, tk, h₀, C, m, cs, vs, n, rfl, D, hsz, kk⟩ := h₁
  refine wpAny_bind (append_at (s := ⟨hh, g, d, tk, os⟩) (its := vs.toArray) (n := n) D.get0 (fun h'' hs e => wpAny_pure ?_) (by simpa using hsz))
  refine kk h'' (D.upd (fun b y hb q => hs.extBut b y hb q) (e.trans ?_))
  simp [lstN]

/-- a block from its iterator on: the inside of a comprehension -/
theorem blk_ {elt : Expr} {gens : List Comprehension} {x : Str} {px : Pos} {iter : Expr} {ifs : List Expr} {rest : List Comprehension} {scope : Scope} {pos p0 : Pos} {cl : List (Str × Addr)} {I : Addr} {oI : Obj} {fp : List Addr} {n : Nat}
    {P : Nat → Tok → Value → Prop} {St : Nat → Heap → Prop} {emit : Addr → Addr → Sem Unit} {RR : Value → Addr → Result → Shared → Prop}
    (hgens : gens = ⟨.Name x px, iter, ifs, 0⟩ :: rest)
    (K : ∀ b o, h.get? b = some o → h'.get? b = some o) (hI : h'.get? I = some oI) (hIn : h.get? I = none) (hsz : h.objs.size ≤ h'.objs.size)
    (W : WalkK PP w A I fp n P St) (hself : ∀ (s : Shared) (Q : Value → Shared → Prop) (E : Value → Shared → Prop), St 0 s.heap → Q (.ref I) s → wpAny (model PP w) A (pyIter (.ref I)) Q E s)
    (hst : St 0 h') (hob : ∀ i h, St i h → ∃ o, h.get? I = some o) (hfp : ∀ b ∈ fp, b ≠ I → ∃ o, h.get? b = some o)
    (hcell : ∀ y ∈ scope.names, y.2 ≠ .cell) (hkind : scope.kind = .function) (hx : scope.names.lookup x = some .local)
    (hturn : ∀ a C, compTurn (.ListComp elt gens scope pos) 0 (.ref I) (.ref a) (compEnvC scope cl C env) = (do
      standAt p0
      match ← pyNext (.ref I) with
      | none => pure (.done .next)
      | some v =>
        letOwnedTupleGo (.Name x px) (.ref I) v
        assign (.Name x px) (compEnvC scope cl C env) v
        let ok ← tests ifs (compEnvC scope cl C env)
        if ok = true then emit a C
        again (.compLoop (.ListComp elt gens scope pos) 0 (.ref I) (.ref a) (compEnvC scope cl C env))))
    (Inv : Nat → List Value → List (Addr × Obj) → Prop) (h0 : Inv 0 [] [])
    (turn : ∀ (C a : Addr) (i : Nat) (v : Value) (u : Nat) (m₁ : Str → Option Value) vs k cs₁ o₁ hh (tk : Nat), t ≤ u → u ≤ tk → i < n → P i u v → Inv i vs cs₁ → Led h C hh (fun y => if y = x then some v else m₁ y) ((I, o₁) :: (a, lstN vs k) :: cs₁) →
      wpAny (model PP w) A (tests ifs (compEnvC scope cl C env)) (fun ok s₂ => if ok = true then wpAny (model PP w) A (emit a C) (fun _ s₃ => ∃ hh' tk' m' vs' k' cs', s₃ = ⟨hh', g, d, tk', os⟩ ∧ Led h C hh' m' ((I, o₁) :: (a, lstN vs' k') :: cs') ∧ Inv (i + 1) vs' cs') NoE s₂
        else ∃ hh' tk' m' vs' k' cs', s₂ = ⟨hh', g, d, tk', os⟩ ∧ Led h C hh' m' ((I, o₁) :: (a, lstN vs' k') :: cs') ∧ Inv (i + 1) vs' cs') NoE ⟨hh, g, d, tk, os⟩)
    (done : ∀ C a hh tk vs k cs₁ m₁, t ≤ tk → Inv n vs cs₁ → Led h C hh m₁ ((a, lstN vs k) :: cs₁) → RR (.ref a) C (.ok .next) ⟨hh, g, d, tk, os⟩) :
    wpAny (model PP w) A (newList []) (fun acc s₃ => wpAny (model PP w) A (newFunctionEnv scope env.globals cl [] env.qual none .none (some env)) (fun cenv s₄ =>
      codeAny (model PP w) A (.compStart (.ListComp elt gens scope pos) 0 (.ref I) acc { cenv with scope := relabel scope env }) (RR acc cenv.locals) s₄) E s₃) E ⟨h', g, d, t, os⟩ := by
  subst hgens
  refine wpAny_newObj_type (wpAny_newFunctionEnv hcell (by intro y hy; simp at hy) (fun h₁ hns₁ hsb₁ => ?_) hkind)
  dsimp only at hns₁ hsb₁ ⊢
  generalize hH2 : h'.push { cls := .type "list", dict := none, data := .seq ([] : List Value).toArray } = H2 at hns₁ hsb₁ ⊢
  have hC : H2.objs.size = h'.objs.size + 1 := by rw [← hH2, Heap.size_push]
  have hCb : ∀ b o, h'.get? b = some o → b ≠ H2.objs.size := fun b o e => Nat.ne_of_lt (by have := Heap.lt_size e; rw [hC]; exact Nat.lt_succ_of_lt this)
  have hC1 : h'.objs.size ≠ H2.objs.size := Nat.ne_of_lt (by rw [hC]; exact Nat.lt_succ_self _)
  have old : ∀ b o, h'.get? b = some o → h₁.get? b = some o := fun b o e => hsb₁.extBut b o (hCb b o e) (Heap.get?_push_of_some _ (hH2 ▸ Heap.get?_push_of_some _ e))
  have ha : h₁.get? h'.objs.size = some (lstN [] 0) := hsb₁.extBut _ _ hC1 (Heap.get?_push_of_some _ (hH2 ▸ Heap.get?_push_size _ rfl))
  have hnone : ∀ b, h'.objs.size ≤ b → h.get? b = none := fun b hb => by
    cases q : h.get? b with
    | none => rfl
    | some o => exact absurd (Heap.lt_size q) (Nat.not_lt.mpr (Nat.le_trans hsz hb))
  have hIlt := Heap.lt_size hI
  have D1 : Led h H2.objs.size h₁ (fun x => ([] : List (Str × Value)).reverse.lookup x) [(I, oI), (h'.objs.size, lstN [] 0)] := by
    refine ⟨⟨hns₁, fun b o e => old b o (K b o e), by rw [hC]; exact Nat.le_succ_of_le hsz⟩, fun p hp => ?_, ?_⟩
    · rcases List.mem_cons.mp hp with rfl | hp
      · exact ⟨old _ _ hI, hCb _ _ hI, hIn⟩
      · rcases List.mem_singleton.mp hp with rfl
        exact ⟨ha, hC1, hnone _ (Nat.le_refl _)⟩
    · simpa using Nat.ne_of_lt hIlt
  have hst₁ : St 0 h₁ := W.frame _ _ _ hst fun b hb o e => old b o e
  have hCf : H2.objs.size ∉ fp := fun hm => by
    by_cases q : H2.objs.size = I
    · exact hCb _ _ hI q.symm
    · obtain ⟨o, e⟩ := hfp _ hm q
      exact hCb _ _ (K _ _ e) rfl
  have loop : codeAny (model PP w) A (.compLoop (.ListComp elt (⟨.Name x px, iter, ifs, 0⟩ :: rest) scope pos) 0 (.ref I) (.ref h'.objs.size) (compEnvC scope cl H2.objs.size env)) (RR (.ref h'.objs.size) H2.objs.size) ⟨h₁, g, d, t + ([] : List (Str × Value)).length, os⟩ := by
    refine cl_ (h₀ := h) (env := compEnvC scope cl H2.objs.size env) (hturn h'.objs.size H2.objs.size) W (lookup_relabel_local hx) (by show scope.kind = _; exact hkind)
      (fun i m' cs' => ∃ vs k cs₁, cs' = (h'.objs.size, lstN vs k) :: cs₁ ∧ Inv i vs cs₁) (fun b hb hbI => .inl (hfp b hb hbI)) hCf D1 hst₁ ⟨[], 0, [], rfl, h0⟩ hob ?_ ?_
    · rintro i v u m₁ cs₁ o₁ hh tk hT hU hi hP ⟨vs, k, cs₂, rfl, hI2⟩ D
      refine wpAny_mono (turn _ _ i v u m₁ vs k cs₂ o₁ hh tk hT hU hi hP hI2 D) (fun ok s₂ h₂ => ?_) fun _ _ x => x
      cases ok with
      | true =>
        simp only [if_true] at h₂ ⊢
        refine wpAny_mono h₂ (fun _ s₃ h₃ => ?_) fun _ _ x => x
        obtain ⟨hh', tk', m', vs', k', cs', rfl, D', I'⟩ := h₃
        exact ⟨hh', tk', m', _, rfl, D', vs', k', cs', rfl, I'⟩
      | false =>
        simp only [Bool.false_eq_true, if_false] at h₂ ⊢
        obtain ⟨hh', tk', m', vs', k', cs', rfl, D', I'⟩ := h₂
        exact ⟨hh', tk', m', _, rfl, D', vs', k', cs', rfl, I'⟩
    · rintro hh tk m₁ cs₁ hT ⟨vs, k, cs₂, rfl, hI2⟩ D
      exact done _ _ hh tk vs k cs₂ m₁ hT hI2 D
  exact codeAny_compStart_list loop (hself _ _ _ hst₁ loop)

/-- a comprehension's value -/
theorem lc_ {elt iter : Expr} {target : Expr} {ifs : List Expr} {rest : List Comprehension} {scope : Scope} {pos : Pos} {cl : List (Str × Addr)} {Q : Value → Shared → Prop} {s : Shared} (hclos : closureFor scope env = pure cl) (hkind : scope.kind = .function)
    (hnames : ∀ z ∈ scope.names, z.2 = .local → scope.names.lookup z.1 = some .local)
    (k : wpAny (model PP w) A (eval iter env) (fun xv s₁ => wpAny (model PP w) A (pyIter xv) (fun it s₂ => wpAny (model PP w) A (newList []) (fun acc s₃ => wpAny (model PP w) A (newFunctionEnv scope env.globals cl [] env.qual none .none (some env)) (fun cenv s₄ =>
      codeAny (model PP w) A (.compStart (.ListComp elt (⟨target, iter, ifs, 0⟩ :: rest) scope pos) 0 it acc { cenv with scope := relabel scope env }) (compPost (model PP w) A E none Q acc cenv.locals) s₄) E s₃) E s₂) E s₁) E s)
    (hs : ∀ x, foldedSetIterable iter env x = pure x := by intro _; rfl) :
    wpAny (model PP w) A (eval (.ListComp elt (⟨target, iter, ifs, 0⟩ :: rest) scope pos) env) Q E s := by
  rw [eval_ListComp]
  exact wpAny_comprehension_free (use := none) rfl hs hclos hkind hnames k
/-- «y = [..]» -/
theorem lca_ {elt iter : Expr} {target : Expr} {ifs : List Expr} {rest : List Comprehension} {scope : Scope} {pos spos : Pos} {cl : List (Str × Addr)} {y : Str} {py : Pos} {Q : Flow → Shared → Prop} {s : Shared}
    (hsw : swapsWith (.ListComp elt (⟨target, iter, ifs, 0⟩ :: rest) scope pos) (some (.Name y py)) spos.line env = pure true) (hclos : closureFor scope env = pure cl) (hkind : scope.kind = .function)
    (hnames : ∀ z ∈ scope.names, z.2 = .local → scope.names.lookup z.1 = some .local)
    (k : wpAny (model PP w) A (eval iter env) (fun xv s₁ => wpAny (model PP w) A (pyIter xv) (fun it s₂ => wpAny (model PP w) A (newList []) (fun acc s₃ => wpAny (model PP w) A (newFunctionEnv scope env.globals cl [] env.qual none .none (some env)) (fun cenv s₄ =>
      codeAny (model PP w) A (.compStart (.ListComp elt (⟨target, iter, ifs, 0⟩ :: rest) scope pos) 0 it acc { cenv with scope := relabel scope env }) (compPost (model PP w) A E (some (assign (.Name y py) env)) (fun _ s' => Q .next s') acc cenv.locals) s₄) E s₃) E s₂) E s₁) E s)
    (hs : ∀ x, foldedSetIterable iter env x = pure x := by intro _; rfl) :
    wpAny (model PP w) A (exec (.Assign [.Name y py] (.ListComp elt (⟨target, iter, ifs, 0⟩ :: rest) scope pos) spos) env) Q E s := by
  rw [exec_Assign_Name_used _ _ _ _ hsw]
  refine wpAny_bind (wpAny_standAt (wpAny_bind ?_))
  show wpAny _ A (do let _ ← comprehension (.ListComp elt (⟨target, iter, ifs, 0⟩ :: rest) scope pos) scope env _ (newList []) false (eval iter env) (some (assign (.Name y py) env))) _ _ s
  exact wpAny_bind (wpAny_mono (wpAny_comprehension_free (use := some (assign (.Name y py) env)) (Q := fun _ s' => Q .next s') rfl hs hclos hkind hnames k) (fun _ s' hq => wpAny_pure (wpAny_pure hq)) fun _ _ e => e)
/-- the two ends of a block -/
theorem pv_ {hh : Heap} {tk : Nat} {C a : Addr} {m₁ : Str → Option Value} {csb : List (Addr × Obj)} {Q : Value → Shared → Prop} (D : Led h₀ L h m cs) (Db : Led h C hh m₁ csb)
    (k : ∀ h'', Led h₀ L h'' m (csb ++ cs) → Q (.ref a) ⟨h'', g, d, tk, os⟩) : compPost (model PP w) A E none Q (.ref a) C (.ok .next) ⟨hh, g, d, tk, os⟩ :=
  ⟨m₁, Db.F.ns, fun h'' hs => k h'' (D.out Db fun b o hb e => hs.extBut b o hb e)⟩
theorem pa_ {hh : Heap} {tk : Nat} {C a : Addr} {m₁ : Str → Option Value} {csb : List (Addr × Obj)} {y : Str} {py : Pos} {Q : Value → Shared → Prop} (D : Led h₀ env.locals h m cs) (Db : Led h C hh m₁ csb)
    (k : ∀ h'' tk', tk ≤ tk' → Led h₀ env.locals h'' (fun z => if z = y then some (.ref a) else m z) (csb ++ cs) → Q .none ⟨h'', g, d, tk', os⟩)
    (hk : env.scope.kind = .function := by rfl) (hl : env.kindOf y = some .local := by rfl) : compPost (model PP w) A E (some (assign (.Name y py) env)) Q (.ref a) C (.ok .next) ⟨hh, g, d, tk, os⟩ := by
  have D2 : Led h₀ env.locals hh m (csb ++ cs) := D.out Db fun _ _ _ e => e
  have hLC : env.locals ≠ C := by
    obtain ⟨_, _, _, hL, _⟩ := D.F.ns
    exact Nat.ne_of_lt (Nat.lt_of_lt_of_le (Heap.lt_size hL) Db.F.above)
  show wpAny _ A (assign (.Name y py) env (.ref a)) _ _ _
  refine wpAny_assign_Name (wpAny_storeName_local (s := ⟨hh, g, d, tk, os⟩) hl D2.F.ns (fun h₂ hn₂ hs₂ => ?_) (by rw [hk]; rfl))
  refine ⟨m₁, Db.F.ns.sameBut hs₂ (Ne.symm hLC), fun h₃ hs₃ => k h₃ _ (Nat.le_succ _) ?_⟩
  have D3 := D2.set hn₂ hs₂
  refine ⟨⟨hn₂.sameBut hs₃ hLC, fun b o e => ?_, D3.F.above⟩, fun p hp => ?_, D3.nd⟩
  · exact hs₃.extBut b o (Nat.ne_of_lt (Nat.lt_of_lt_of_le (Nat.lt_of_lt_of_le (Heap.lt_size e) D.base_lt) Db.F.above)) (D3.F.keep b o e)
  · have H := D3.N p hp
    refine ⟨hs₃.extBut _ _ (fun z => ?_) H.1, H.2⟩
    rcases List.mem_append.mp hp with hp | hp
    · exact (Db.N p hp).2.1 z
    · exact absurd (D.lt hp) (by rw [z]; exact Nat.not_lt.mpr Db.F.above)
end
end Mine

end
section
open PySem PySem.W PyProof.Rows PySem.Calls
namespace Mine
section
variable {w : World} {A : Around} {R : Result → Shared → Prop} {E : Value → Shared → Prop} {h₀ h h' : Heap} {g : Array GenState} {d : Drawn} {t : Nat} {os : OsState} {env : Env} {L : Addr} {m : Str → Option Value} {cs : List (Addr × Obj)}

/-- what a turn of a one-clause comprehension must show -/
abbrev Turn1 (w : World) (A : Around) (g : Array GenState) (d : Drawn) (os : OsState) (h : Heap) (C I a : Addr) (o₁ : Obj) (ifs : List Expr) (elt : Expr) (cenv : Env) (Inv : List Value → List (Addr × Obj) → Prop) (vs : List Value) (k : Nat) (s : Shared) : Prop :=
  wpAny (model PP w) A (tests ifs cenv) (fun ok s₂ => if ok = true then wpAny (model PP w) A (eval elt cenv) (fun v s₁ => ∃ hh' tk' m' cs', s₁ = ⟨hh', g, d, tk', os⟩ ∧ Led h C hh' m' ((I, o₁) :: (a, lstN vs k) :: cs') ∧ Inv (vs ++ [v]) cs') NoE s₂
    else ∃ hh' tk' m' cs', s₂ = ⟨hh', g, d, tk', os⟩ ∧ Led h C hh' m' ((I, o₁) :: (a, lstN vs k) :: cs') ∧ Inv vs cs') NoE s
theorem turn1_ {C I a : Addr} {o₁ : Obj} {ifs : List Expr} {elt : Expr} {cenv : Env} {Inv : List Value → List (Addr × Obj) → Prop} {vs : List Value} {k : Nat} {s : Shared} (hlen : vs.length ≤ sizeLine) (T : Turn1 w A g d os h C I a o₁ ifs elt cenv Inv vs k s) :
    wpAny (model PP w) A (tests ifs cenv) (fun ok s₂ => if ok = true then wpAny (model PP w) A (emit1 a elt cenv) (fun _ s₃ => ∃ hh' tk' m' vs' k' cs', s₃ = ⟨hh', g, d, tk', os⟩ ∧ Led h C hh' m' ((I, o₁) :: (a, lstN vs' k') :: cs') ∧ Inv vs' cs') NoE s₂
      else ∃ hh' tk' m' vs' k' cs', s₂ = ⟨hh', g, d, tk', os⟩ ∧ Led h C hh' m' ((I, o₁) :: (a, lstN vs' k') :: cs') ∧ Inv vs' cs') NoE s := by
  refine wpAny_mono T (fun ok s₂ h₂ => ?_) fun _ _ x => x
  cases ok with
  | true =>
    simp only [if_true] at h₂ ⊢
    refine emit1_ (g := g) (d := d) (os := os) (wpAny_mono h₂ (fun v s₁ h₁ => ?_) fun _ _ x => x)
    obtain ⟨hh', tk', m', cs', rfl, D, I'⟩ := h₁
    exact ⟨hh', tk', h, C, m', (I, o₁) :: cs', vs, k, rfl, D.perm (List.Perm.swap ..), hlen, fun hh'' D' => ⟨hh'', tk', m', _, _, cs', rfl, D'.perm (List.Perm.swap ..), I'⟩⟩
  | false =>
    simp only [Bool.false_eq_true, if_false] at h₂ ⊢
    obtain ⟨hh', tk', m', cs', rfl, D, I'⟩ := h₂
    exact ⟨hh', tk', m', _, _, cs', rfl, D, I'⟩

/-- over a text -/
theorem bls_ {elt : Expr} {y : Str} {px : Pos} {iter : Expr} {ifs : List Expr} {scope : Scope} {pos : Pos} {cl : List (Str × Addr)} {x : Str} {tx : Tok} {RR : Value → Addr → Result → Shared → Prop}
    (hA : A.handled = none) (hcell : ∀ y ∈ scope.names, y.2 ≠ .cell) (hkind : scope.kind = .function) (hx : scope.names.lookup y = some .local)
    (Inv : Nat → List Value → List (Addr × Obj) → Prop) (h0 : Inv 0 [] []) (hlen : ∀ i vs cs, Inv i vs cs → vs.length ≤ sizeLine)
    (turn : ∀ C a I i c (u : Nat) (m₁ : Str → Option Value) vs k cs₁ o₁ hh (tk : Nat), t ≤ u → u ≤ tk → x.cps[i]? = some c → Inv i vs cs₁ → Led h C hh (fun z => if z = y then some (.str ⟨#[c]⟩ u) else m₁ z) ((I, o₁) :: (a, lstN vs k) :: cs₁) →
      Turn1 w A g d os h C I a o₁ ifs elt (compEnvC scope cl C env) (Inv (i + 1)) vs k ⟨hh, g, d, tk, os⟩)
    (done : ∀ C a hh (tk : Nat) vs k cs₁ m₁, t ≤ tk → Inv x.cps.size vs cs₁ → Led h C hh m₁ ((a, lstN vs k) :: cs₁) → RR (.ref a) C (.ok .next) ⟨hh, g, d, tk, os⟩) :
    wpAny (model PP w) A (pyIter (.str x tx)) (fun it s₂ => wpAny (model PP w) A (newList []) (fun acc s₃ => wpAny (model PP w) A (newFunctionEnv scope env.globals cl [] env.qual none .none (some env)) (fun cenv s₄ =>
      codeAny (model PP w) A (.compStart (.ListComp elt [⟨.Name y px, iter, ifs, 0⟩] scope pos) 0 it acc { cenv with scope := relabel scope env }) (RR acc cenv.locals) s₄) E s₃) E s₂) E ⟨h, g, d, t, os⟩ := by
  refine wpAny_pyIter_strU (s := ⟨h, g, d, t, os⟩) ?_
  refine blk_ (oI := { cls := .type (strIterType x), data := .fields #[.str x tx, .int 0 0] }) (emit := fun a C => emit1 a elt (compEnvC scope cl C env)) rfl (fun b o e => Heap.get?_push_of_some _ e) (Heap.get?_push_size _ rfl) (Heap.get?_none_of_le (Nat.le_refl _))
    (by rw [Heap.size_push]; exact Nat.le_succ _) (WalkK.str (prog := PP) (w := w) hA h.objs.size x tx) (fun s Q E st hQ => ?_) ⟨_, Heap.get?_push_size _ rfl, rfl, rfl⟩ (fun i h' st => let ⟨o, ho, _⟩ := st; ⟨o, ho⟩)
    (fun b hb hbI => absurd (List.mem_singleton.mp hb) hbI) hcell hkind hx (fun a C => rfl) Inv h0 ?_ done
  · unfold strIterType at st
    split at st
    · exact (Walks.strAscii (prog := PP) (w := w) hA h.objs.size x tx).self 0 s Q E st hQ
    · exact (Walks.strWide (prog := PP) (w := w) hA h.objs.size x tx).self 0 s Q E st hQ
  · rintro C a i v u m₁ vs k cs₁ o₁ hh tk hT hU _ ⟨c, hc, rfl, _⟩ hI D
    exact turn1_ (hlen _ _ _ hI) (turn C a _ i c u m₁ vs k cs₁ o₁ hh tk hT hU hc hI D)
/-- over a list -/
theorem bll_ {elt : Expr} {y : Str} {px : Pos} {iter : Expr} {ifs : List Expr} {scope : Scope} {pos : Pos} {cl : List (Str × Addr)} {l : Addr} {items : Array Value} {RR : Value → Addr → Result → Shared → Prop}
    (hA : A.handled = none) (hcell : ∀ y ∈ scope.names, y.2 ≠ .cell) (hkind : scope.kind = .function) (hx : scope.names.lookup y = some .local) (hl : h.IsList l items)
    (Inv : Nat → List Value → List (Addr × Obj) → Prop) (h0 : Inv 0 [] []) (hlen : ∀ i vs cs, Inv i vs cs → vs.length ≤ sizeLine)
    (turn : ∀ C a I i v (m₁ : Str → Option Value) vs k cs₁ o₁ hh (tk : Nat), t ≤ tk → items[i]? = some v → Inv i vs cs₁ → Led h C hh (fun z => if z = y then some v else m₁ z) ((I, o₁) :: (a, lstN vs k) :: cs₁) →
      Turn1 w A g d os h C I a o₁ ifs elt (compEnvC scope cl C env) (Inv (i + 1)) vs k ⟨hh, g, d, tk, os⟩)
    (done : ∀ C a hh (tk : Nat) vs k cs₁ m₁, t ≤ tk → Inv items.size vs cs₁ → Led h C hh m₁ ((a, lstN vs k) :: cs₁) → RR (.ref a) C (.ok .next) ⟨hh, g, d, tk, os⟩) :
    wpAny (model PP w) A (pyIter (.ref l)) (fun it s₂ => wpAny (model PP w) A (newList []) (fun acc s₃ => wpAny (model PP w) A (newFunctionEnv scope env.globals cl [] env.qual none .none (some env)) (fun cenv s₄ =>
      codeAny (model PP w) A (.compStart (.ListComp elt [⟨.Name y px, iter, ifs, 0⟩] scope pos) 0 it acc { cenv with scope := relabel scope env }) (RR acc cenv.locals) s₄) E s₃) E s₂) E ⟨h, g, d, t, os⟩ := by
  refine wpAny_pyIter_list (s := ⟨h, g, d, t, os⟩) hl ?_
  obtain ⟨ol, hol, hcl⟩ := id hl
  have hlt : l < h.objs.size := Heap.lt_size hol
  have hne : l ≠ h.objs.size := Nat.ne_of_lt hlt
  have W := Walks.list (prog := PP) (w := w) hA h.objs.size l hne items
  refine blk_ (oI := { cls := .type "list_iterator", data := .fields #[.ref l, .int 0 0] }) (emit := fun a C => emit1 a elt (compEnvC scope cl C env)) rfl (fun b o e => Heap.get?_push_of_some _ e) (Heap.get?_push_size _ rfl) (Heap.get?_none_of_le (Nat.le_refl _))
    (by rw [Heap.size_push]; exact Nat.le_succ _) (WalkK.of W) (fun s Q E st hQ => W.self 0 s Q E st hQ) ⟨⟨_, Heap.get?_push_size _ rfl, rfl, rfl⟩, hl.push _⟩ (fun i h' st => let ⟨o, ho, _⟩ := st.1; ⟨o, ho⟩)
    (fun b hb hbI => ?_) hcell hkind hx (fun a C => rfl) Inv h0 ?_ done
  · rcases List.mem_cons.mp hb with e | hb
    · exact absurd e hbI
    · rw [List.mem_singleton.mp hb]; exact ⟨ol, hol⟩
  · rintro C a i v u m₁ vs k cs₁ o₁ hh tk hT hU _ hP hI D
    exact turn1_ (hlen _ _ _ hI) (turn C a _ i v m₁ vs k cs₁ o₁ hh tk (Nat.le_trans hT hU) hP hI D)
end
end Mine

end
section
open PySem PySem.W PyProof.Rows PySem.Calls
namespace Mine
local macro_rules | `(tactic| walk_at "lk") => `(tactic| first | assumption | exact if_pos rfl | (refine (if_neg (by decide)).trans ?_; walk_at "lk") | rfl)

theorem entry_iter : entryFor table "iter" = some Builtin.«iter» := entryFor_of_tree (by kernel_rfl)
theorem kind_iter : builtinKind "iter" = none := by decide +kernel
theorem plain_iter : plainId "iter" = true := by decide +kernel
theorem args_iter1 (a : Value) : argsOk "iter" ⟨[a], []⟩ := by unfold argsOk; kernel_rfl
theorem exc_stop : isSubtype (.type "StopIteration") (.type "BaseException") = pure true := by rw [isSubtype_type]; kernel_rfl
theorem stop_stop : isSubtype (.type "StopIteration") (.type "StopIteration") = pure true := by rw [isSubtype_type]; kernel_rfl
theorem notTup_stop : isSubtype (.type ((Manifest.find? "StopIteration").elim "type" fun x => x.metatype)) (.type "tuple") = pure false := by
  rw [show ((Manifest.find? "StopIteration").elim "type" fun x => x.metatype) = "type" by decide +kernel, isSubtype_type]; kernel_rfl

section
variable {w : World} {A : Around} {R : Result → Shared → Prop} {E : Value → Shared → Prop} {h₀ h hb base : Heap} {g : Array GenState} {d : Drawn} {t : Nat} {os : OsState} {env : Env} {L : Addr} {m : Str → Option Value} {cs : List (Addr × Obj)} {outer : List Env}
theorem b_iter : bootBuiltins "iter" = some (.builtin "iter") := by boot_fast
theorem n_iter : nsIn (KK w) mainGlobals "iter" = some none := by kernel_rfl
theorem b_ord : bootBuiltins "ord" = some (.builtin "ord") := by boot_fast
theorem n_ord : nsIn (KK w) mainGlobals "ord" = some none := by kernel_rfl
theorem b_len : bootBuiltins "len" = some (.builtin "len") := by boot_fast
theorem n_len : nsIn (KK w) mainGlobals "len" = some none := by kernel_rfl
theorem b_stop : bootBuiltins "StopIteration" = some (.type "StopIteration") := PyProof.Rows.Boot.«StopIteration»
theorem n_stop : nsIn (KK w) mainGlobals "StopIteration" = some none := by kernel_rfl
theorem g_parse : nsIn (KK w) mainGlobals "_parse_varint" = some (some (.ref 45)) := by kernel_rfl
theorem k_parse : keepIn (KK w) (.ref 45) = true := by kernel_rfl
abbrev liO (l : Addr) (i : Nat) : Obj := { cls := .type "list_iterator", data := .fields #[.ref l, .int i 0] }
theorem iter_list_ {l : Addr} {items : Array Value} {Q : Value → Shared → Prop} (hl : h.IsList l items)
    (k : Q (.ref h.objs.size) ⟨h.push (liO l 0), g, d, t, os⟩) : wpAny (model PP w) A (call (.builtin "iter") [.ref l]) Q E ⟨h, g, d, t, os⟩ := by
  refine Calls.call_function_entry kind_iter plain_iter entry_iter (args_iter1 _) ?_
  unfold Builtin.«iter»
  refine wpAny_bind (wpAny_of_eq (a := [Value.ref l]) rfl ?_)
  exact wpAny_bind (wpAny_pyIter_list (s := ⟨h, g, d, t, os⟩) hl (wpAny_pure ⟨_, rfl, k⟩))
theorem len_str_ {x : Str} {tx : Tok} {Q : Value → Shared → Prop} (hx : x.length ≤ 1000000) (k : ∀ u tk, t ≤ tk → Q (.int x.length u) ⟨h, g, d, tk, os⟩) : wpAny (model PP w) A (call (.builtin "len") [.str x tx]) Q E ⟨h, g, d, t, os⟩ :=
  P.len_str (s := ⟨h, g, d, t, os⟩) (by omega) (k _ _ (by show t ≤ t + 1 + 1; omega))

/-- the numbers of a text -/
def unitsT : List Bool → List Nat
  | [] => []
  | false :: r => 46 :: unitsT r
  | true :: r => 92 :: 46 :: unitsT r
def unitsN (us : List Bool) : List Int := us.map fun b => if b then 1838 else 46
end
end Mine

end
section
open PySem PySem.W PyProof.Rows PySem.Calls
namespace Mine
local macro_rules | `(tactic| walk_at "lk") => `(tactic| first | assumption | exact if_pos rfl | (refine (if_neg (by decide)).trans ?_; walk_at "lk") | rfl)
section
variable {w : World} {A : Around} {R : Result → Shared → Prop} {h₀ h hb base : Heap} {g : Array GenState} {d : Drawn} {t : Nat} {os : OsState} {env : Env} {L : Addr} {m : Str → Option Value} {cs : List (Addr × Obj)} {outer : List Env}

theorem caught_ {Bx : Heap} {e : Addr} {a0 : Value} {b₀ : Stmt} {suite : List Stmt} {pos np : Pos} {rest : List ExceptHandler} {Q : Flow → Shared → Prop} (hfr : A.frames = some (env :: outer)) (hf : env.frame = some L)
    (fl : Heap.FlyingW Bx (env :: outer) e (.type "StopIteration") a0 h)
    (hn : ∀ h', Heap.FlyingW Bx (env :: outer) e (.type "StopIteration") a0 h' → h.UpToSlots h' → wpAny (model PP w) (A.mark (some (.ref e))) (eval (.Name "StopIteration" np) env) (fun c s₁ => c = .type "StopIteration" ∧ s₁ = ⟨h', g, d, t, os⟩) NoE ⟨h', g, d, t, os⟩)
    (k : ∀ h', Heap.FlyingW Bx (env :: outer) e (.type "StopIteration") a0 h' → h.UpToSlots h' → wpAny (model PP w) (A.mark (some (.ref e))) (execs (b₀ :: suite) env) Q NoE ⟨h', g, d, t, os⟩) :
    wpAny (model PP w) A (noteFrame (.ref e) env) (fun _ s₂ => wpAny (model PP w) A (setFlight (.ref e) none) (fun _ s₃ => wpAny (model PP w) A (handleBy (.ref e) env (.ExceptHandler (some (.Name "StopIteration" np)) none (b₀ :: suite) pos :: rest)) Q NoE s₃) NoE s₂) NoE ⟨h, g, d, t, os⟩ := by
  refine wpAny_looks_onW (s := ⟨h, g, d, t, os⟩) hfr hf fl fun h₁ hh u1 => ?_
  refine wpAny_landsW (s := ⟨h₁, g, d, t, os⟩) hh fun h₂ fl2 u2 => ?_
  refine wpAny_handleBy_builtin (X := "StopIteration") (T := "StopIteration") (b := true) exc_stop notTup_stop stop_stop (wpAny_passesOwnAt .never (wpAny_mono (hn h₂ fl2 (u1.trans u2)) (fun c s₁ q => ?_) fun _ _ x => x))
  obtain ⟨rfl, rfl⟩ := q
  obtain ⟨ob, hob, hobc⟩ := fl2.there
  refine ⟨rfl, ⟨ob, hob, hobc⟩, ?_⟩
  simp only [if_true]
  refine lands_againW (s := ⟨h₂, g, d, t, os⟩) fl2 fun h₃ fl3 u3 => ?_
  exact wpAny_passesOwnAt .never (k h₃ fl3 ((u1.trans u2).trans u3))

theorem unitsT_len : ∀ us : List Bool, us.length ≤ (unitsT us).length
  | [] => Nat.le_refl _
  | false :: r => by have := unitsT_len r; simp [unitsT]; omega
  | true :: r => by have := unitsT_len r; simp [unitsT]; omega
theorem unitsT_app : ∀ us us' : List Bool, unitsT (us ++ us') = unitsT us ++ unitsT us'
  | [], _ => rfl
  | false :: r, us' => by simp [unitsT, unitsT_app r us']
  | true :: r, us' => by simp [unitsT, unitsT_app r us']

/-- items of a list of ints -/
theorem ints_get : ∀ {vs : List Value} {ns : List Int} {i : Nat} {n : Int}, IntsAre vs ns → ns[i]? = some n → ∃ u, vs[i]? = some (.int n u)
  | _, _, i, n, .nil, e => by simp at e
  | _, _, 0, n, .cons a u _, e => by simp at e; subst e; exact ⟨u, rfl⟩
  | _, _, i + 1, n, .cons a u r, e => by
    obtain ⟨u', e'⟩ := ints_get (i := i) r (by simpa using e)
    exact ⟨u', by simpa using e'⟩
theorem ints_none {vs : List Value} {ns : List Int} {i : Nat} (hI : IntsAre vs ns) (e : ns[i]? = none) : vs[i]? = none := by
  have := hI.length
  simp at e ⊢
  omega

theorem Led.at3 {h₀ h h' : Heap} {L a : Addr} {m : Str → Option Value} {p q : Addr × Obj} {o o' : Obj} {cs : List (Addr × Obj)} (D : Led h₀ L h m (p :: q :: (a, o) :: cs)) (hs : ∀ b x, b ≠ a → h.get? b = some x → h'.get? b = some x) (e : h'.get? a = some o') :
    Led h₀ L h' m (p :: q :: (a, o') :: cs) :=
  ((D.perm (cs' := (a, o) :: ([p, q] ++ cs)) (List.perm_middle (l₁ := [p, q])).symm).upd hs e).perm (List.perm_middle (l₁ := [p, q]))

/-- all of a heap but some frames and one object -/
theorem below_all {it a : Addr} {h₇ : Heap} {cn : Str} {sc : Scope} {ccd : Value} (K : Below A base outer h) (F : Fr h L h₇ m) (hk : sc.kind = .function := by rfl) :
    Below (A.deeper (envOf cn sc L a ccd)) (hideAll h₇ (it :: L :: outer.filterMap (·.frame))) (envOf cn sc L a ccd :: outer) h₇ :=
  ⟨Around.frames_deeper K.stack, fun _ _ e => of_hideAll _ e, funFrames_hide (K.push (name := cn) (a := a) (cd := ccd) F hk).frames fun e he b hb => List.mem_cons_of_mem _ (by
    rcases List.mem_cons.mp he with rfl | he
    · cases hb; exact .head _
    · exact .tail _ (List.mem_filterMap.mpr ⟨e, he, hb⟩))⟩

set_option maxRecDepth 20000 in
theorem numbers_C {x : Str} {tx : Tok} {us : List Bool} {tail : Bool} (B : Base w hb) (kb : ∀ b o, hb.get? b = some o → h.get? b = some o) (hs : hb.objs.size ≤ h.objs.size) (K : Below A base outer h) (hbf : ∀ a ∈ outer.filterMap (·.frame), hb.get? a = none)
    (hroom : A.depth + 1 < recursionLimit) (hA : A.handled = none) (hx : x.cps.toList = unitsT us ++ (if tail then [92] else [])) (hlen : x.cps.size ≤ 1000)
    (k : ∀ h' tk r vs n, t ≤ tk → (∀ b o, b ∉ outer.filterMap (·.frame) → h.get? b = some o → h'.get? b = some o) → h.UpToSlots h' → h'.get? r = some (lstN vs n) → IntsAre vs (unitsN us) → h.get? r = none → R (.ok (.ret (.ref r))) ⟨h', g, d, tk, os⟩) :
    codeAny (model PP w) A (.call (.ref 95) ⟨[.str x tx], []⟩) R ⟨h, g, d, t, os⟩ := by
  have B' := B.keeps kb
  have ho := B'.X 95 _ rfl
  refine ent_ B' (by omega) ho (by kernel_rfl) rfl rfl fun h₁ tk hT D => ?_
  clear ho
  have hsl : (1000 : Nat) ≤ sizeLine := Nat.le_of_ble_eq_true rfl
  refine wpAny_execs_cons (asg_ (Call_ (bn_ D B' n_iter b_iter (by decide) (callWith_method1 (first := []) (spliced_more (lc_ (cl := []) (closureFor_none (by decide)) rfl (by decide) (ln_ D (v := .str x tx) (by walk_at "lk") (bls_ hA (by decide) rfl rfl
    (fun i vs cs => cs = [] ∧ IntsAre vs ((x.cps.toList.take i).map Int.ofNat)) ⟨rfl, .nil⟩ ?_ ?_ ?_))))))))
  · rintro i vs cs ⟨_, hI⟩
    have := hI.length
    simp at this
    omega
  · rintro C a I i c u m₁ vs k1 cs₁ o₁ hh tk1 hT1 hU1 hc ⟨rfl, hI⟩ Db
    refine wpAny_tests_nil ?_
    rw [if_pos rfl]
    refine Call_ (gbn_ Db (D.base B') n_ord b_ord (by decide) (callWith_method1 (first := []) (spliced_more (gln_ Db (v := .str ⟨#[c]⟩ u) (by walk_at "lk") (spliced_none (P.ord_of_char ?_))))))
    refine ⟨_, _, _, [], rfl, Db, rfl, ?_⟩
    rw [List.take_add_one, Array.getElem?_toList, hc]
    simpa using hI.append (.cons (c : Int) tk1 .nil)
  · rintro C a hh tk1 vs k1 cs₁ m₁ hT1 ⟨rfl, hI⟩ Db
    refine pv_ D Db fun h₂ D => ?_
    refine spliced_none (iter_list_ (lst_is (D.get (.head _))) ?_)
    have D := D.push (liO a 0)
    generalize h₂.objs.size = it at D ⊢
    generalize h₂.push (liO a 0) = h₃ at D ⊢
    rw [← Array.length_toList, List.take_length] at hI
    refine sn_ D fun h₄ tk4 hT4 D => ?_
    refine wpAny_execs_cons (asg_ (List_ (spliced_none (nl_ D (by decide) fun h₅ nl K5 _ D => sn_ D fun h₆ tk6 hT6 D => ?_))))
    refine wpAny_execs_cons (wpAny_For ?_)
    refine Call_ (bn_ D B' n_range b_range (by decide) ?_)
    refine Pv.callWith_type1 (spliced_more (wpAny_BinOp (Call_ (bn_ D B' n_len b_len (by decide) (callWith_method1 (first := []) (spliced_more (ln_ D (v := .str x tx) (by walk_at "lk") (spliced_none (len_str_ (by show x.cps.size ≤ _; omega) fun u7 tk7 hT7 => ?_)))))))))
    refine ci_ fun u8 tk8 hT8 => add_ fun u9 tk9 hT9 => spliced_none ?_
    rw [show (x.length : Int) + 1 = ((x.cps.size + 1 : Nat) : Int) from by show ((x.cps.size : Nat) : Int) + 1 = _; omega]
    have hxl : x.cps.size = (unitsT us).length + (if tail = true then 1 else 0) := by
      rw [← Array.length_toList, hx, List.length_append]; cases tail <;> rfl
    have hul := unitsT_len us
    refine fr_ hA (fun i m cs => ∃ ws n oi, cs = [(nl, lstN ws n), (it, oi), (a, lstN vs k1)] ∧ oi.cls = .type "list_iterator" ∧ oi.data = .fields #[.ref a, .int (unitsT (us.take i)).length 0] ∧ m "octets" = some (.ref it) ∧ m "numbers" = some (.ref nl) ∧ i ≤ us.length ∧
      IntsAre ws ((unitsN us).take i)) D (by omega) ⟨[], 0, liO a 0, rfl, rfl, rfl, by walk_at "lk", by walk_at "lk", Nat.zero_le _, .nil⟩ ?_ ?_
    · rintro I o₁ i u m₁ cs₁ h₇ tk7 hT7 hi ⟨ws, n, oi, rfl, c1, d1, eo, en, hiu, hI2⟩ D
      have hsplit : x.cps.toList = unitsT (us.take i) ++ (unitsT (us.drop i) ++ (if tail = true then [92] else [])) := by
        rw [hx, ← List.append_assoc, ← unitsT_app, List.take_append_drop]
      have hget : ∀ j, (x.cps.toList.map Int.ofNat)[(unitsT (us.take i)).length + j]? = ((unitsT (us.drop i) ++ (if tail = true then [92] else [])).map Int.ofNat)[j]? := by
        intro j
        rw [hsplit, List.map_append, List.getElem?_append_right (by simp)]
        simp
      by_cases hlt : i < us.length
      · obtain ⟨b, hb1⟩ : ∃ b, us[i]? = some b := ⟨us[i], List.getElem?_eq_getElem hlt⟩
        have hdr : us.drop i = b :: us.drop (i + 1) := by
          rw [List.drop_eq_getElem_cons hlt]
          rw [List.getElem?_eq_getElem hlt] at hb1
          rw [Option.some.inj hb1]
        have htk : us.take (i + 1) = us.take i ++ [b] := by rw [List.take_add_one, hb1]; rfl
        have hws : ws.length ≤ sizeLine := by
          have := hI2.length
          simp [unitsN] at this
          omega
        refine wpAny_execs_cons (wpAny_Try_except (wpAny_execs_cons (apx_ (vs0 := ws) (n0 := n) D (lk_ne en) (D.get (.tail _ (.head _))) ?_)))
        refine Call_ (gl_ D B' g_parse (cw_ B' k_parse (spliced_more (ln_ D (lk_ne eo) (spliced_none ⟨D.base B', ca_ ?_⟩)))))
        cases b with
        | false =>
          obtain ⟨u0, hu0⟩ := ints_get (i := (unitsT (us.take i)).length) (n := 46) hI (by have := hget 0; rw [Nat.add_zero] at this; rw [this, hdr]; rfl)
          refine parse_1 (u := u0) B' D.F.keep D.base_lt (D.N _ (.tail _ (.tail _ (.head _)))).2.2 (by show A.depth + 1 < _; omega) ⟨oi, D.get (.tail _ (.tail _ (.head _))), c1, d1⟩ (lst_is (D.get (.tail _ (.tail _ (.tail _ (.head _)))))) (by simpa using hu0) fun h₈ tk8 u8 hT8 hk8 hit8 => ?_
          obtain ⟨oi8, e8, c8, d8⟩ := hit8
          have D8 := (D.at3 hk8 e8).perm (List.Perm.swap ..)
          refine ⟨h₈, tk8, _, _, ws, n, rfl, D8, hws, fun h₉ D9 => xn_ (xn_ (xn_ ?_))⟩
          refine ⟨h₉, tk8, _, _, rfl, D9.perm (List.Perm.swap ..), ws ++ [.int 46 u8], n + 1, oi8, rfl, c8, ?_, lk_ne eo, lk_ne en, hlt, ?_⟩
          · rw [show (unitsT (us.take (i + 1))).length = (unitsT (us.take i)).length + 1 from by rw [htk, unitsT_app]; simp [unitsT]]
            exact d8
          · rw [List.take_add_one, show (unitsN us)[i]? = some 46 from by simp [unitsN, hb1]]
            exact hI2.append (.cons 46 u8 .nil)
        | true =>
          obtain ⟨u0, hu0⟩ := ints_get (i := (unitsT (us.take i)).length) (n := 92) hI (by have := hget 0; rw [Nat.add_zero] at this; rw [this, hdr]; rfl)
          obtain ⟨u1, hu1⟩ := ints_get (i := (unitsT (us.take i)).length + 1) (n := 46) hI (by rw [hget 1, hdr]; rfl)
          refine parse_2 (u := u0) (v := u1) B' D.F.keep D.base_lt (D.N _ (.tail _ (.tail _ (.head _)))).2.2 (by show A.depth + 1 < _; omega) ⟨oi, D.get (.tail _ (.tail _ (.head _))), c1, d1⟩ (lst_is (D.get (.tail _ (.tail _ (.tail _ (.head _)))))) (by simpa using hu0) (by simpa using hu1) fun h₈ tk8 u8 hT8 hk8 hit8 => ?_
          obtain ⟨oi8, e8, c8, d8⟩ := hit8
          have D8 := (D.at3 hk8 e8).perm (List.Perm.swap ..)
          refine ⟨h₈, tk8, _, _, ws, n, rfl, D8, hws, fun h₉ D9 => xn_ (xn_ (xn_ ?_))⟩
          refine ⟨h₉, tk8, _, _, rfl, D9.perm (List.Perm.swap ..), ws ++ [.int 1838 u8], n + 1, oi8, rfl, c8, ?_, lk_ne eo, lk_ne en, hlt, ?_⟩
          · rw [show (unitsT (us.take (i + 1))).length = (unitsT (us.take i)).length + 2 from by rw [htk, unitsT_app]; simp [unitsT]]
            exact d8
          · rw [List.take_add_one, show (unitsN us)[i]? = some 1838 from by simp [unitsN, hb1]]
            exact hI2.append (.cons 1838 u8 .nil)
      · have hiE : i = us.length := by omega
        have hdr : us.drop i = [] := by rw [hiE]; exact List.drop_length
        have hws : (unitsN us).take i = unitsN us := List.take_of_length_le (by simp [unitsN]; omega)
        rw [hws] at hI2
        refine wpAny_execs_cons (wpAny_Try_except (wpAny_execs_cons (apx_ (vs0 := ws) (n0 := n) D (lk_ne en) (D.get (.tail _ (.head _))) ?_)))
        refine Call_ (gl_ D B' g_parse (cw_ B' k_parse (spliced_more (ln_ D (lk_ne eo) (spliced_none ⟨D.base B', ca_ ?_⟩)))))
        have hitin : h₇.get? it = some oi := D.get (.tail _ (.tail _ (.head _)))
        have hnit : h.get? it = none := (D.N _ (.tail _ (.tail _ (.head _)))).2.2
        have hitL : it ≠ h.objs.size := (D.N _ (.tail _ (.tail _ (.head _)))).2.1
        have hnl : h₇.get? nl = some (lstN ws n) := D.get (.tail _ (.head _))
        have hnn : h.get? nl = none := (D.N _ (.tail _ (.head _))).2.2
        have hnL : nl ≠ h.objs.size := (D.N _ (.tail _ (.head _))).2.1
        have hni : nl ≠ it := by
          have nd := D.nd
          simp at nd
          exact nd.2.1.1
        have hfrm : ∀ b ∈ outer.filterMap (·.frame), ∃ o, h.get? b = some o := fun b hb => let ⟨_, o, e, _⟩ := K.frames.mem hb; ⟨o, e⟩
        have common : ∀ h₈ : Heap, (∀ b o, (hideAll h₇ (it :: h.objs.size :: outer.filterMap (·.frame))).get? b = some o → h₈.get? b = some o) → h₇.UpToSlots h₈ →
            Led (hideAll h (outer.filterMap (·.frame))) h.objs.size h₈ (fun z => if z = Str.ofString "turn" then some (.int (i : Nat) u) else m₁ z) [(nl, lstN ws n)] := fun h₈ st up => by
          have up1 : ∀ b o, b ≠ it → b ≠ h.objs.size → b ∉ outer.filterMap (·.frame) → h₇.get? b = some o → h₈.get? b = some o := fun b o h1 h2 h3 e => st b o (hideAll_get _ e fun hm => by
            rcases List.mem_cons.mp hm with z | hm
            · exact h1 z
            · rcases List.mem_cons.mp hm with z | hm
              · exact h2 z
              · exact h3 hm)
          have hnf : nl ∉ outer.filterMap (·.frame) := fun hm => by obtain ⟨o, e⟩ := hfrm _ hm; rw [hnn] at e; cases e
          refine ⟨⟨up.ns D.F.ns, fun b o e => ?_, by rw [hideAll_size]; exact Nat.le_refl _⟩, fun p hp => ?_, by simp⟩
          · have e1 := of_hideAll _ e
            refine up1 b o (fun z => by rw [z, hnit] at e1; cases e1) (Nat.ne_of_lt (Heap.lt_size e1)) (fun hm => by rw [hideAll_none _ hm] at e; cases e) (D.F.keep _ _ e1)
          · rcases List.mem_singleton.mp hp with rfl
            refine ⟨up1 _ _ hni hnL hnf hnl, hnL, ?_⟩
            cases q : (hideAll h (outer.filterMap (·.frame))).get? nl with
            | none => rfl
            | some o => have := of_hideAll _ q; rw [hnn] at this; cases this
        have Bx : Base w (hideAll h (outer.filterMap (·.frame))) := B.keeps fun b o e => hideAll_get _ (kb b o e) fun hm => by rw [hbf _ hm] at e; cases e
        have hbi : (hideAll h₇ (it :: h.objs.size :: outer.filterMap (·.frame))).get? it = none := hideAll_none _ (.head _)
        have room : A.depth + 1 < recursionLimit := hroom
        have upH : h.UpToSlots h₇ := fun b o e _ => ⟨o.slots, D.F.keep b o e⟩
        cases tail with
        | false =>
          refine parse_3 B' D.F.keep D.base_lt (D.N _ (.tail _ (.tail _ (.head _)))).2.2 room ⟨oi, hitin, c1, d1⟩ (lst_is (D.get (.tail _ (.tail _ (.tail _ (.head _)))))) hA (below_all K D.F) hbi
            (by simpa using ints_none (i := (unitsT (us.take i)).length) hI (by have := hget 0; rw [Nat.add_zero] at this; rw [this, hdr]; rfl)) fun h₈ tk8 e a0 hT8 fl up => ?_
          refine caught_ (Around.frames_deeper K.stack) rfl fl (fun h₉ fl9 up9 => ?_) fun h₉ fl9 up9 => ?_
          · exact bn_ (common h₉ fl9.1 (up.trans up9)) Bx n_stop b_stop (by decide) ⟨rfl, rfl⟩
          · have D9 := common h₉ fl9.1 (up.trans up9)
            refine wpAny_execs_cons (wpAny_Return_some (ln_ D9 (lk_ne en) ?_))
            refine k h₉ tk8 nl ws n (by omega) (fun b o hb e => D9.F.keep b o (hideAll_get _ e hb)) ((upH.trans up).trans up9) (D9.get (.head _)) hI2 hnn
        | true =>
          obtain ⟨u0, hu0⟩ := ints_get (i := (unitsT (us.take i)).length) (n := 92) hI (by have := hget 0; rw [Nat.add_zero] at this; rw [this, hdr]; rfl)
          refine parse_4 (u := u0) B' D.F.keep D.base_lt (D.N _ (.tail _ (.tail _ (.head _)))).2.2 room ⟨oi, hitin, c1, d1⟩ (lst_is (D.get (.tail _ (.tail _ (.tail _ (.head _)))))) hA (below_all K D.F) hbi (by simpa using hu0)
            (by simpa using ints_none (i := (unitsT (us.take i)).length + 1) hI (by rw [hget 1, hdr]; rfl)) fun h₈ tk8 e a0 hT8 fl up => ?_
          refine caught_ (Around.frames_deeper K.stack) rfl fl (fun h₉ fl9 up9 => ?_) fun h₉ fl9 up9 => ?_
          · exact bn_ (common h₉ fl9.1 (up.trans up9)) Bx n_stop b_stop (by decide) ⟨rfl, rfl⟩
          · have D9 := common h₉ fl9.1 (up.trans up9)
            refine wpAny_execs_cons (wpAny_Return_some (ln_ D9 (lk_ne en) ?_))
            refine k h₉ tk8 nl ws n (by omega) (fun b o hb e => D9.F.keep b o (hideAll_get _ e hb)) ((upH.trans up).trans up9) (D9.get (.head _)) hI2 hnn
    · rintro h₇ tk7 m₁ cs₁ hT7 ⟨ws, n, oi, rfl, c1, d1, eo, en, hiu, hI2⟩ D
      exact absurd hiu (by omega)
end
end Mine

end
section
open PySem PySem.W PyProof.Rows PySem.Calls
namespace Mine
section
variable {prog : Program} {w : World} {A : Around} {E : Value → Shared → Prop} {R : Result → Shared → Prop} {s : Shared} {I S : Addr} {n : Nat}
/-- an iterator drained into a list, what it makes told with the heap -/
structure Drains (prog : Program) (w : World) (A : Around) (I S : Addr) (n : Nat) (St : Nat → List Value → Nat → Shared → Prop) (Fin : List Value → Nat → Shared → Prop) : Prop where
  at_ : ∀ i vs c s, St i vs c s → vs.length ≤ 1000 ∧ s.heap.get? S = some (lstN vs c)
  item : ∀ i vs c s (Q : Option Value → Shared → Prop) (E : Value → Shared → Prop), i < n → St i vs c s →
    (∀ v s', s'.heap.get? S = some (lstN vs c) → (∀ h'', (∀ b o, b ≠ S → s'.heap.get? b = some o → h''.get? b = some o) → h''.get? S = some (lstN (vs ++ [v]) (c + 1)) → St (i + 1) (vs ++ [v]) (c + 1) { s' with heap := h'' }) → Q (some v) s') →
    wpAny (model prog w) A (pyNext (.ref I)) Q E s
  done : ∀ vs c s (Q : Option Value → Shared → Prop) (E : Value → Shared → Prop), St n vs c s → (∀ s', Fin vs c s' → Q none s') → wpAny (model prog w) A (pyNext (.ref I)) Q E s
theorem drain_ {St : Nat → List Value → Nat → Shared → Prop} {Fin : List Value → Nat → Shared → Prop} (W : Drains prog w A.in1 I S n St Fin) (res : Value) : ∀ (k i : Nat) (vs : List Value) (c : Nat) (s : Shared), n - i = k → i ≤ n → St i vs c s →
    (∀ vs c s', Fin vs c s' → R (.ok (.ret res)) s') → codeAny (model prog w) A (.builtin "list.extend.loop" ⟨[.ref S, .ref I, res], []⟩) R s := by
  intro k
  induction k with
  | zero =>
    intro i vs c s hk hi hst hR
    have hin : i = n := by omega
    subst hin
    refine codeAny_builtin F.entry_extend_loop ?_
    rw [Around.under_plainId F.plain_extend_loop _]
    show wpAny _ A.in1 (pyNext (.ref I) >>= _) _ _ s
    exact wpAny_bind (W.done vs c s _ _ hst fun s' hf => wpAny_pure (hR vs c s' hf))
  | succ k ih =>
    intro i vs c s hk hi hst hR
    have hlt : i < n := by omega
    refine codeAny_builtin F.entry_extend_loop ?_
    rw [Around.under_plainId F.plain_extend_loop _]
    show wpAny _ A.in1 (pyNext (.ref I) >>= _) _ _ s
    have hlen := (W.at_ _ _ _ _ hst).1
    have hsl : (1001 : Nat) ≤ sizeLine := Nat.le_of_ble_eq_true rfl
    refine wpAny_bind (W.item i vs c s _ _ hlt hst fun v s' hS' hst' => ?_)
    show wpAny _ A.in1 (updateSeq S (·.push v) >>= _) _ _ _
    refine wpAny_bind (wpAny_updateSeq hS' rfl (wpAny_pure ⟨plainId_quiet F.plain_extend_loop _, ih (i + 1) (vs ++ [v]) (c + 1) _ (by omega) hlt (hst' _ (fun b o hb e => ?_) ?_) hR⟩) (by simp; omega) (by simp; omega))
    · exact (Heap.get?_update_other _ _ (Ne.symm hb)).trans e
    · refine (Heap.get?_update_self _ hS' rfl).trans (congrArg some ?_)
      show Obj.mapSeq _ ({ cls := .type "list", data := .seq vs.toArray c } : Obj) = { cls := .type "list", data := .seq (vs ++ [v]).toArray (c + 1) }
      have e1 : (vs ++ [v]).toArray = vs.toArray.push v := by simp
      have e2 : ((vs.toArray.push v).size == vs.toArray.size) = false := by simp
      show ({ cls := .type "list", data := .seq (vs.toArray.push v) (if (vs.toArray.push v).size == vs.toArray.size then c else c + 1) } : Obj) = _
      rw [e2, e1]; rfl

theorem list_gen_ {St : Nat → List Value → Nat → Shared → Prop} {Fin : List Value → Nat → Shared → Prop} {Q : Value → Shared → Prop} (hg : s.TypeIs (.ref I) "generator") (hI : I < s.heap.objs.size)
    (W : Drains prog w A.in1.in1 I s.heap.objs.size n St Fin)
    (hself : ∀ (s : Shared) (Q : Value → Shared → Prop) (E : Value → Shared → Prop), s.TypeIs (.ref I) "generator" → (∃ g, s.heap.IsGen I g) → Q (.ref I) s → wpAny (model prog w) A.in1.in1 (pyIter (.ref I)) Q E s) (hgen : ∃ g, s.heap.IsGen I g)
    (h0 : ∀ h' c, (∀ b o, s.heap.get? b = some o → h'.get? b = some o) → h'.get? s.heap.objs.size = some (lstN [] c) → St 0 [] c { s with heap := h' })
    (hQ : ∀ vs c s', Fin vs c s' → Q (.ref s.heap.objs.size) s') :
    wpAny (model prog w) A (call (.type "list") [.ref I]) Q E s := by
  have hSI : s.heap.objs.size ≠ I := Ne.symm (Nat.ne_of_lt hI)
  refine callType_codes (Q₁ := fun obj s₁ => obj = .ref s.heap.objs.size ∧ s₁ = { s with heap := s.heap.push { cls := .type "list", data := .seq #[] } }) F.called_list (F.typeCall_list_1 _) F.entry_list_init
    (code_list_new _ ⟨rfl, rfl⟩) fun obj s₁ h₁ => ?_
  obtain ⟨rfl, rfl⟩ := h₁
  have hS : (s.heap.push { cls := .type "list", data := .seq #[] }).get? s.heap.objs.size = some { cls := .type "list", data := .seq #[] } := Heap.get?_push_size _ rfl
  refine ⟨⟨_, hS, rfl⟩, F.args_list_init_2 _ _, ?_⟩
  generalize hh1 : s.heap.push { cls := .type "list", data := .seq #[] } = h1 at hS
  have k1 : ∀ b o, s.heap.get? b = some o → h1.get? b = some o := fun b o e => hh1 ▸ Heap.get?_push_of_some _ e
  have hb : ∀ b o, s.heap.get? b = some o → b ≠ s.heap.objs.size := fun b o e => Nat.ne_of_lt (Heap.lt_size e)
  show wpAny _ A.in1.in1 (do let old ← Builtin.List.listItems (.ref s.heap.objs.size); Builtin.List.listUpdate (.ref s.heap.objs.size) (fun _ => #[]); letGo old.toList.reverse; Builtin.List.listExtendWith (.ref s.heap.objs.size) (.ref I) .none) _ _ _
  refine wpAny_bind ?_
  unfold Builtin.List.listItems
  refine wpAny_bind (wpAny_seqItems hS rfl (wpAny_pure ?_))
  show wpAny _ A.in1.in1 (updateSeq s.heap.objs.size (fun _ => #[]) >>= fun _ => letGo (#[] : Array Value).toList.reverse >>= fun _ => Builtin.List.listExtendWith (.ref s.heap.objs.size) (.ref I) .none) _ _ _
  refine wpAny_bind (wpAny_updateSeq hS rfl ?_)
  have hS₂ := Heap.get?_update_self (Obj.mapSeq (fun _ => (#[] : Array Value))) hS rfl
  have oth : ∀ b o, b ≠ s.heap.objs.size → h1.get? b = some o → (h1.update s.heap.objs.size (Obj.mapSeq (fun _ => (#[] : Array Value)))).get? b = some o :=
    fun b o hb e => (Heap.get?_update_other _ _ (Ne.symm hb)).trans e
  refine wpAny_bind (wpAny_letGo ?_)
  generalize h1.update s.heap.objs.size (Obj.mapSeq (fun _ => (#[] : Array Value))) = h2 at hS₂ oth
  have k2 : ∀ b o, s.heap.get? b = some o → h2.get? b = some o := fun b o e => oth b o (hb b o e) (k1 b o e)
  have hT2 : ({ s with heap := h2 } : Shared).TypeIs (.ref I) "generator" := let ⟨o, ho, hc⟩ := hg; ⟨o, k2 _ _ ho, hc⟩
  unfold Builtin.List.listExtendWith
  refine wpAny_bind (wpAny_typeOf hT2 ?_)
  have e1 : Builtin.List.listSameRef (.ref s.heap.objs.size) (.ref I) = false := by simp [Builtin.List.listSameRef, hSI]
  have e2 : (Value.type "generator" == Value.type "list") = false := by decide
  have e3 : (Value.type "generator" == Value.type "tuple") = false := by decide
  simp only [e1, e2, e3, Bool.or_false, Bool.false_eq_true, if_false]
  refine wpAny_bind (hself { s with heap := h2 } _ _ hT2 (let ⟨g, x⟩ := hgen; ⟨g, x.keeps k2⟩) ?_)
  refine wpAny_bind (wpAny_holding ?_)
  unfold Builtin.List.listLengthHint
  refine wpAny_bind (wpAny_specialOf hT2 F.gen_no_len ?_)
  show wpAny _ A.in1.in1 (specialOf (Value.ref I) (Str.ofString "__length_hint__") >>= _) _ _ _
  refine wpAny_bind (wpAny_specialOf hT2 F.gen_no_hint ?_)
  refine wpAny_pure ?_
  show wpAny _ A.in1.in1 (rule "list.extend.makes-room" >>= fun _ => Builtin.List.listTouch (.ref s.heap.objs.size) >>= fun _ =>
    again (.builtin "list.extend.loop" ⟨[.ref s.heap.objs.size, .ref I, .none], []⟩)) _ _ _
  refine wpAny_bind (wpAny_rule ?_)
  refine wpAny_bind ?_
  show wpAny _ A.in1.in1 (updateSeq s.heap.objs.size (·.push .none) >>= fun _ => updateSeq s.heap.objs.size (·.pop)) _ _ _
  refine wpAny_bind (wpAny_updateSeq hS₂ rfl ?_)
  have hS₃ := Heap.get?_update_self (Obj.mapSeq (·.push Value.none)) hS₂ rfl
  refine wpAny_updateSeq (hz := by seq_fits) hS₃ rfl ?_
  have hS₄ := Heap.get?_update_self (Obj.mapSeq (·.pop)) hS₃ rfl
  have oth2 : ∀ b o, b ≠ s.heap.objs.size → h2.get? b = some o → ((h2.update s.heap.objs.size (Obj.mapSeq (·.push Value.none))).update s.heap.objs.size (Obj.mapSeq (·.pop))).get? b = some o :=
    fun b o hb e => (Heap.get?_update_other _ _ (Ne.symm hb)).trans ((Heap.get?_update_other _ _ (Ne.symm hb)).trans e)
  generalize (h2.update s.heap.objs.size (Obj.mapSeq (·.push Value.none))).update s.heap.objs.size (Obj.mapSeq (·.pop)) = h3 at hS₄ oth2
  obtain ⟨c, hS5⟩ : ∃ c, h3.get? s.heap.objs.size = some (lstN [] c) := ⟨_, hS₄⟩
  exact wpAny_pure ⟨plainId_quiet F.plain_extend_loop _, drain_ W .none n 0 [] c _ rfl (Nat.zero_le _) (h0 h3 c (fun b o e => oth2 b o (hb b o e) (k2 b o e)) hS5) fun vs c s' hf => ⟨rfl, hQ vs c s' hf⟩⟩
end
end Mine

end
section
open PySem PySem.W PyProof.Rows PySem.Calls
namespace Mine
section
variable {w : World} {A : Around} {R : GenEnd} {Y : Protocol} {n : Nat} {s₀ : Shared} {c : Code} {fs : List Frame} {s : Shared} {env : Env}
  {K : Flow → Sem Fin} {H : Value → Sem Fin} {gd : Bool → Bool} {lv : List Value → List Value}
/-- a statement without a yield, in a generator -/
theorem seg_plain {st : Stmt} (h : wpAny (model PP w) (A.over c fs) (exec st env) (fun f s' => Seg (model PP w) A R Y n s₀ c (K f) fs s') NoE s) : Seg (model PP w) A R Y n s₀ c ((exec st env).wrap K H gd lv) fs s :=
  seg_wrap (wpAny_mono h (fun _ _ x => x) fun _ _ x => x.elim)
theorem seg_If {test : Expr} {body orelse : List Stmt} {pos : Pos}
    (h : wpAny (model PP w) (A.over c fs) (isTrue test env (eval test env)) (fun b s' => if b = true then Seg (model PP w) A R Y n s₀ c ((execs body env).wrap K H gd lv) fs s' else Seg (model PP w) A R Y n s₀ c ((execs orelse env).wrap K H gd lv) fs s') NoE s) :
    Seg (model PP w) A R Y n s₀ c ((exec (.If test body orelse pos) env).wrap K H gd lv) fs s := by
  rw [arm_exec_If]
  show Seg (model PP w) A R Y n s₀ c (.at pos fun _ => (isTrue test env (eval test env) >>= fun b => if b = true then execs body env else execs orelse env).wrap K H gd lv) fs s
  refine seg_at ?_
  rw [Sem.bind_eq_wrap', Sem.wrap_wrap]
  refine seg_wrap (wpAny_mono h (fun b s' hb => ?_) fun _ _ x => x.elim)
  cases b with
  | true => simpa using hb
  | false => simpa using hb
theorem seg_For {target iter : Expr} {body orelse : List Stmt} {pos : Pos} (hs : ∀ x, foldedSetIterable iter env x = pure x)
    (h : wpAny (model PP w) (A.over c fs) (eval iter env) (fun x s₁ => wpAny (model PP w) (A.over c fs) (pyIter x) (fun it s₂ => ∀ p, Seg (model PP w) A R Y n s₀ (.forLoop target it body orelse env) ((model PP w).den (.forLoop target it body orelse env))
      (.ret (fun r => ((match r with | .ok f => (.pure f : Sem Flow) | .error e => .raise e).onRaise fun (x : Value) => do
        if (← field x 1) == Value.none then unsupported "frame.own-activation:exception-without-traceback"
        setFlight x env.frame).wrap K H gd lv) none (gd false) (lv []) c p [] :: fs) s₂) NoE s₁) NoE s) :
    Seg (model PP w) A R Y n s₀ c ((exec (.For target iter body orelse pos) env).wrap K H gd lv) fs s := by
  rw [arm_exec_For]
  show Seg (model PP w) A R Y n s₀ c (.at pos fun _ => (eval iter env >>= fun v => foldedSetIterable iter env v >>= fun x => (standAt iter.pos >>= fun _ => holding [x] (pyIter x) >>= fun it => runOwn (.forLoop target it body orelse env) env)).wrap K H gd lv) fs s
  refine seg_at ?_
  rw [Sem.bind_eq_wrap', Sem.wrap_wrap]
  refine seg_wrap (wpAny_mono h (fun v s' hv => ?_) fun _ _ x => x.elim)
  rw [hs v]
  show Seg (model PP w) A R Y n s₀ c (.at iter.pos fun _ => (holding [v] (pyIter v) >>= fun it => runOwn (.forLoop target it body orelse env) env).wrap K H gd lv) fs s'
  refine seg_at ?_
  rw [Sem.bind_eq_wrap', Sem.wrap_wrap]
  refine seg_wrap (wpAny_holding (wpAny_mono hv (fun it s₂ h₂ => ?_) fun _ _ x => x.elim))
  exact seg_call h₂
theorem seg_forLoop {target : Expr} {it : Value} {body orelse : List Stmt}
    (h : wpAny (model PP w) (A.over (.forLoop target it body orelse env) fs) (pyNext it) (fun r s₁ => match r with
      | none => Seg (model PP w) A R Y n s₀ (.block orelse env) ((model PP w).den (.block orelse env)) fs s₁
      | some v => wpAny (model PP w) (A.over (.forLoop target it body orelse env) fs) (letOwnedTupleGo target it v) (fun _ s₂ => wpAny (model PP w) (A.over (.forLoop target it body orelse env) fs) (assign target env v) (fun _ s₃ =>
          Seg (model PP w) A R Y n s₀ (.forLoop target it body orelse env) ((execs body env).wrap (fun f => match f with
            | .next | .cont => .pure (.again (.forLoop target it body orelse env))
            | .brk => .pure (.done .next)
            | .ret v => .pure (.done (.ret v))) (fun e => (do noteFrame e env; theTreesLotGoes e : Sem Unit).wrap (fun _ => .raise e) .raise id id) id id) fs s₃) NoE s₂) NoE s₁) NoE s) :
    Seg (model PP w) A R Y n s₀ (.forLoop target it body orelse env) ((model PP w).den (.forLoop target it body orelse env)) fs s := by
  show Seg (model PP w) A R Y n s₀ _ ((forTurn target it body orelse env).onRaise (fun x => do noteFrame x env; theTreesLotGoes x)) fs s
  unfold forTurn
  rw [Sem.onRaise_eq_wrap]
  show Seg (model PP w) A R Y n s₀ _ (.at target.pos fun _ => (((pyNext it).onRaise fun _ => standAt { target.pos with line := 0 }) >>= _).wrap _ _ _ _) fs s
  refine seg_at ?_
  rw [Sem.bind_eq_wrap', Sem.wrap_wrap]
  refine seg_wrap (wpAny_onRaise (wpAny_mono h (fun r s₁ h₁ => ?_) fun _ _ x => x.elim))
  cases r with
  | none =>
    show Seg (model PP w) A R Y n s₀ _ (.pure (.again (.block orelse env))) fs s₁
    exact seg_again rfl h₁
  | some v =>
    show Seg (model PP w) A R Y n s₀ _ ((letOwnedTupleGo target it v >>= fun _ => assign target env v >>= fun _ => execs body env >>= fun f => _).wrap _ _ _ _) fs s₁
    rw [Sem.bind_eq_wrap', Sem.wrap_wrap]
    refine seg_wrap (wpAny_mono h₁ (fun _ s₂ h₂ => ?_) fun _ _ x => x.elim)
    rw [Sem.bind_eq_wrap', Sem.wrap_wrap]
    refine seg_wrap (wpAny_mono h₂ (fun _ s₃ h₃ => ?_) fun _ _ x => x.elim)
    rw [Sem.bind_eq_wrap', Sem.wrap_wrap]
    rw [Sem.wrap_congr (execs body env) _ _ (K' := fun f => match f with
            | .next | .cont => .pure (.again (.forLoop target it body orelse env))
            | .brk => .pure (.done .next)
            | .ret v => .pure (.done (.ret v))) (H' := (fun e => (do noteFrame e env; theTreesLotGoes e : Sem Unit).wrap (fun _ => .raise e) .raise id id))
        (fun f => by cases f <;> rfl)
        (fun e => by first | exact Sem.bind_eq_wrap _ _ | (show (do noteFrame e env; theTreesLotGoes e : Sem Unit).bind (fun _ => .raise e) = _; rw [Sem.bind_eq_wrap]))]
    exact h₃
end
end Mine

end
section
open PySem PySem.W PyProof.Rows PySem.Calls
namespace Mine
local macro_rules | `(tactic| walk_at "lk") => `(tactic| first | assumption | exact if_pos rfl | (refine (if_neg (by decide)).trans ?_; walk_at "lk") | rfl)
section
variable {w : World} {A : Around} {h₀ h : Heap} {g : Array GenState} {d : Drawn} {t : Nat} {os : OsState} {E : Value → Shared → Prop} {L a : Addr} {m : Str → Option Value} {cs : List (Addr × Obj)} {env : Env}
/-- an enumerate at its text's end -/
theorem ene_ {e it : Addr} {o : Obj} {x : Str} {tx : Tok} {i : Nat} {old : Value} {Q : Option Value → Shared → Prop} (hA : A.handled = none) (D : Led h₀ L h m ((e, enO .none it i old) :: (it, o) :: cs)) (ho : IsSIt o x tx i) (hc : x.cps[i]? = none)
    (k : ∀ h', Led h₀ L h' m cs → Q none ⟨h', g, d, t, os⟩) : wpAny (model PP w) A (pyNext (.ref e)) Q E ⟨h, g, d, t, os⟩ := by
  have hT : (⟨h, g, d, t, os⟩ : Shared).TypeIs (.ref e) "enumerate" := ⟨_, D.get0, rfl⟩
  have hit : h.get? it = some o := D.get (.tail _ (.head _))
  obtain ⟨hcl, hda⟩ := ho
  unfold pyNext
  refine wpAny_bind (wpAny_attempt (wpAny_callSpecial?_slot (name := Str.ofString "__next__") hT F.slot_enumerate_next
    (wpAny_call_entry F.slot_enumerate_next hT F.entry_enumerate_next ?_ (F.args_enumerate_next_1 _))))
  show wpAny _ _ (field (.ref e) 2 >>= _) _ _ _
  refine wpAny_bind (wpAny_field D.get0 rfl (x := .ref it) rfl ?_)
  have fin : ∀ h' x, Heap.ExtBut it h h' → (∃ o, h'.get? x = some o ∧ o.cls = .type "StopIteration") → wpAny (model PP w) A (do
      if (← isInstance (.ref x) (.type "StopIteration")) = true then pure none else throw (.ref x)) Q E ⟨h', g, d, t, os⟩ := fun h' x he hx => by
    obtain ⟨o', ho', hc'⟩ := hx
    refine wpAny_bind (wpAny_isInstance (T := "StopIteration") (b := true) ⟨o', ho', hc'⟩ isSubtype_stop ?_)
    exact wpAny_pure (k h' (((D.sub (.cons _ (List.Sublist.refl _))).lose fun b y hb q => he b y hb q)))
  unfold strIterType at hcl
  by_cases ha : (x.cps.all (· < 128)) = true
  · rw [if_pos ha] at hcl
    exact wpAny_bind (wpAny_nextOf_ascii_end (s := ⟨h, g, d, t, os⟩) hA ⟨o, hit, hcl, hda⟩ hc fin)
  · rw [if_neg ha] at hcl
    exact wpAny_bind (wpAny_nextOf_wide_end (s := ⟨h, g, d, t, os⟩) hA ⟨o, hit, hcl, hda⟩ hc fin)
end

/-- what the splitting of escapes makes -/
def esc : Nat → Bool → List Nat → List (Nat × List Nat)
  | _, false, [] => []
  | i, true, [] => [(i - 1, [92])]
  | i, true, c :: r => (i, [92, c]) :: esc (i + 1) false r
  | i, false, c :: r => if c = 92 then esc (i + 1) true r else (i, [c]) :: esc (i + 1) false r
/-- made so far -/
def PF (its : List (Nat × List Nat)) (prod : List Value) (own : List (Addr × Obj)) : Prop :=
  prod.length = its.length ∧ ∀ (k : Nat) (it : Nat × List Nat), its[k]? = some it → ∃ (a : Addr) (u u' : Tok), prod[k]? = some (Value.ref a) ∧ (a, tup [.int (it.1 : Nat) u, .str ⟨it.2.toArray⟩ u']) ∈ own
theorem PF.mono {its : List (Nat × List Nat)} {prod : List Value} {own own' : List (Addr × Obj)} (x : PF its prod own) (h : ∀ p ∈ own, p ∈ own') : PF its prod own' :=
  ⟨x.1, fun k it e => let ⟨a, u, u', e1, e2⟩ := x.2 k it e; ⟨a, u, u', e1, h _ e2⟩⟩
theorem PF.snoc {its : List (Nat × List Nat)} {prod : List Value} {own : List (Addr × Obj)} {p : Nat} {l : List Nat} {a : Addr} {u u' : Tok} (x : PF its prod own) :
    PF (its ++ [(p, l)]) (prod ++ [.ref a]) ((a, tup [.int (p : Nat) u, .str ⟨l.toArray⟩ u']) :: own) := by
  refine ⟨by simp [x.1], fun k it e => ?_⟩
  by_cases hk : k < its.length
  · rw [List.getElem?_append_left hk] at e
    obtain ⟨b, v, v', e1, e2⟩ := x.2 k it e
    exact ⟨b, v, v', by rw [List.getElem?_append_left (by rw [x.1]; exact hk)]; exact e1, .tail _ e2⟩
  · rw [List.getElem?_append_right (by omega)] at e
    have hk0 : k - its.length = 0 := by
      cases q : k - its.length with
      | zero => rfl
      | succ n => rw [q] at e; simp at e
    rw [hk0] at e
    simp at e
    subst e
    refine ⟨a, u, u', ?_, .head _⟩
    rw [List.getElem?_append_right (by rw [x.1]; omega), x.1, hk0]
    rfl
end Mine

end
section
open PySem PySem.W PyProof.Rows PySem.Calls
namespace Mine
local macro_rules | `(tactic| walk_at "lk") => `(tactic| first | assumption | exact if_pos rfl | (refine (if_neg (by decide)).trans ?_; walk_at "lk") | rfl)

/-- the end of the generator -/
def GR (hB : Heap) (C S : Addr) (d : Drawn) (os : OsState) (ITS : List (Nat × List Nat)) : GenEnd := fun n s₀ r s₁ => r = .ok (.ret .none) ∧ (n = 0 ∧ ∃ h₁ tk₁ m1 own prod c, s₁ = ⟨h₁, s₀.gens, d, tk₁, os⟩ ∧ s₀.toks ≤ tk₁ ∧
  Led hB C h₁ m1 ((S, lstN prod c) :: own) ∧ s₀.heap.get? S = some (lstN prod c) ∧ PF ITS prod own)
/-- a yield of the generator -/
def GY (Z : Addr × Obj) (hB : Heap) (C S : Addr) (d : Drawn) (os : OsState) (ITS : List (Nat × List Nat)) : Protocol := fun n s₀ v s₁ kap => ∃ h₁ tk₁ m1 own tl prod c its its', s₁ = ⟨h₁, s₀.gens, d, tk₁, os⟩ ∧ s₀.toks ≤ tk₁ ∧
  Led hB C h₁ m1 ((S, lstN prod c) :: own) ∧ s₀.heap.get? S = some (lstN prod c) ∧ ITS = its ++ its' ∧ its'.length = n ∧ Z ∈ tl ∧ (∀ p ∈ tl, p ∈ own) ∧ PF its (prod ++ [v]) tl ∧
  ∀ h'' g'' tk'' prod'' c'', tk₁ ≤ tk'' → PF its prod'' tl → Led hB C h'' m1 ((S, lstN prod'' c'') :: own) → kap (.send .none) ⟨h'', g'', d, tk'', os⟩

section
variable {w : World} {A : Around} {hB h : Heap} {g : Array GenState} {d : Drawn} {t : Nat} {os : OsState} {C S a : Addr} {m : Str → Option Value} {cs : List (Addr × Obj)} {cn : Str} {sc : Scope} {ccd : Value} {env : Env}
  {n : Nat} {s₀ : Shared} {c : Code} {fs : List Frame} {K : Flow → Sem Fin} {H : Value → Sem Fin} {gd : Bool → Bool} {lv : List Value → List Value} {Z : Addr × Obj} {ITS its its' : List (Nat × List Nat)} {prod : List Value} {k : Nat}

/-- «yield (p, text)» -/
theorem seg_yield2 {e1 e2 : Expr} {kk : Nat} {p1 p2 p3 : Pos} (hfs : splitAtGen fs = none) (hgd : gd false = false) (hfg : fs.any Frame.guarded = false)
    (h0 : s₀.heap.get? S = some (lstN prod k)) (hits : ITS = its ++ its') (hn : its'.length = n + 1)
    (hv : wpAny (model PP w) (A.over c fs) (eval (.Tuple [e1, e2] kk p1) env) (fun v s' => ∃ h₁ tk₁ m1 own tl, s' = ⟨h₁, s₀.gens, d, tk₁, os⟩ ∧ s₀.toks ≤ tk₁ ∧ Led hB C h₁ m1 ((S, lstN prod k) :: own) ∧
      (∃ it its'', its' = it :: its'' ∧ Z ∈ tl ∧ (∀ p ∈ tl, p ∈ own) ∧ PF (its ++ [it]) (prod ++ [v]) tl ∧
        ∀ h'' g'' tk'' prod'' c'' (s₁ : Shared), tk₁ ≤ tk'' → PF (its ++ [it]) prod'' tl → Led hB C h'' m1 ((S, lstN prod'' c'') :: own) → s₁ = ⟨h'', g'', d, tk'', os⟩ →
          Seg (model PP w) A (GR hB C S d os ITS) (GY Z hB C S d os ITS) n s₁ c (K .next) fs s₁)) NoE ⟨h, g, d, t, os⟩)
    (hco : env.scope.isCoroutine = false := by rfl) (hi : interactive env = false := by rfl) :
    Seg (model PP w) A (GR hB C S d os ITS) (GY Z hB C S d os ITS) (n + 1) s₀ c ((exec (.Expr (.Yield (some (.Tuple [e1, e2] kk p1)) p2) p3) env).wrap K H gd lv) fs ⟨h, g, d, t, os⟩ := by
  refine seg_Expr_Yield hfs hgd hfg (wpAny_mono hv (fun v s' hv' => ?_) fun _ _ x => x.elim) hco hi
  obtain ⟨h₁, tk₁, m1, own, tl, rfl, hT, D, it, its'', rfl, hZ, htl, hP, hk⟩ := hv'
  intro kap hkap
  refine ⟨h₁, tk₁, m1, own, tl, prod, k, its ++ [it], its'', rfl, hT, D, h0, by rw [hits]; simp, by simpa using hn, hZ, htl, hP, fun h'' g'' tk'' prod'' c'' hT2 hP2 D2 => ?_⟩
  exact hkap .none _ (hk h'' g'' tk'' prod'' c'' _ hT2 hP2 D2 rfl)

/-- the conditions at the head of the loop -/
structure LC (Z : Addr × Obj) (hB : Heap) (C S : Addr) (ITS : List (Nat × List Nat)) (x : Str) (tx : Tok) (e it : Addr) (s₀ : Shared) (i : Nat) (b : Bool) (r : List Nat) (h : Heap) (g : Array GenState) (tk : Nat) (m : Str → Option Value)
    (o : Obj) (old : Value) (prod : List Value) (k : Nat) (tl : List (Addr × Obj)) (its : List (Nat × List Nat)) : Prop where
  D : Led hB C h m ((e, enO .none it (i : Nat) old) :: (it, o) :: (S, lstN prod k) :: tl)
  o_ : IsSIt o x tx i
  r_ : x.cps.toList.drop i = r
  b_ : m "escape" = some (.bool b)
  p_ : b = true → ∃ u, m "pos" = some (.int ((i - 1 : Nat) : Int) u)
  S_ : s₀.heap.get? S = some (lstN prod k)
  g_ : g = s₀.gens
  t_ : s₀.toks ≤ tk
  i_ : ITS = its ++ esc i b r
  f_ : PF its prod tl
  z_ : Z ∈ tl

/-- the loop of the generator -/
theorem gen_loop {x : Str} {tx : Tok} {e it : Addr} {pi pv pt : Pos} {kk : Nat} {body : List Stmt} (hA : ∀ c, (A.over c fs).handled = none)
    (hend : ∀ (s₀ : Shared) (i : Nat) (b : Bool) (h : Heap) (g : Array GenState) (tk : Nat) (m : Str → Option Value) prod k tl its, Led hB C h m ((S, lstN prod k) :: tl) → m "escape" = some (.bool b) → (b = true → ∃ u, m "pos" = some (.int ((i - 1 : Nat) : Int) u)) → s₀.heap.get? S = some (lstN prod k) → g = s₀.gens → s₀.toks ≤ tk →
      ITS = its ++ esc i b [] → PF its prod tl → Z ∈ tl → Seg (model PP w) A (GR hB C S d os ITS) (GY Z hB C S d os ITS) (esc i b []).length s₀ (.block [] (envOf cn sc C a ccd)) ((model PP w).den (.block [] (envOf cn sc C a ccd))) fs ⟨h, g, d, tk, os⟩)
    (hturn : ∀ i b ch r, (∀ s₀ h g tk m o old prod k tl its, LC Z hB C S ITS x tx e it s₀ (i + 1) (!b && ch == 92) r h g tk m o old prod k tl its →
        Seg (model PP w) A (GR hB C S d os ITS) (GY Z hB C S d os ITS) (esc (i + 1) (!b && ch == 92) r).length s₀ (.forLoop (.Tuple [.Name "pos" pi, .Name "ch" pv] kk pt) (.ref e) body [] (envOf cn sc C a ccd)) ((model PP w).den (.forLoop (.Tuple [.Name "pos" pi, .Name "ch" pv] kk pt) (.ref e) body [] (envOf cn sc C a ccd))) fs ⟨h, g, d, tk, os⟩) →
      ∀ (s₀ : Shared) (h : Heap) (g : Array GenState) (tk : Nat) (m : Str → Option Value) o old prod k tl its (ti tc : Nat), x.cps.toList.drop (i + 1) = r → m "escape" = some (.bool b) → Led hB C h (fun y => if y = "ch" then some (.str ⟨#[ch]⟩ tc) else if y = "pos" then some (.int i ti) else m y) ((e, enO .none it (i + 1 : Nat) old) :: (it, o) :: (S, lstN prod k) :: tl) → IsSIt o x tx (i + 1) →
        s₀.heap.get? S = some (lstN prod k) → g = s₀.gens → s₀.toks ≤ tk → ITS = its ++ esc i b (ch :: r) → PF its prod tl → Z ∈ tl →
        Seg (model PP w) A (GR hB C S d os ITS) (GY Z hB C S d os ITS) (esc i b (ch :: r)).length s₀ (.forLoop (.Tuple [.Name "pos" pi, .Name "ch" pv] kk pt) (.ref e) body [] (envOf cn sc C a ccd)) ((execs body (envOf cn sc C a ccd)).wrap (fun f => match f with
            | .next | .cont => .pure (.again (.forLoop (.Tuple [.Name "pos" pi, .Name "ch" pv] kk pt) (.ref e) body [] (envOf cn sc C a ccd)))
            | .brk => .pure (.done .next)
            | .ret v => .pure (.done (.ret v))) (fun e => (do noteFrame e (envOf cn sc C a ccd); theTreesLotGoes e : Sem Unit).wrap (fun _ => .raise e) .raise id id) id id) fs ⟨h, g, d, tk, os⟩)
    (hk : sc.kind = .function := by rfl) (hxi : (envOf cn sc C a ccd).kindOf "pos" = some .local := by rfl) (hxv : (envOf cn sc C a ccd).kindOf "ch" = some .local := by rfl) :
    ∀ r i b s₀ h g tk m o old prod k tl its, LC Z hB C S ITS x tx e it s₀ i b r h g tk m o old prod k tl its →
      Seg (model PP w) A (GR hB C S d os ITS) (GY Z hB C S d os ITS) (esc i b r).length s₀ (.forLoop (.Tuple [.Name "pos" pi, .Name "ch" pv] kk pt) (.ref e) body [] (envOf cn sc C a ccd)) ((model PP w).den (.forLoop (.Tuple [.Name "pos" pi, .Name "ch" pv] kk pt) (.ref e) body [] (envOf cn sc C a ccd))) fs ⟨h, g, d, tk, os⟩ := by
  intro r
  induction r with
  | nil =>
    intro i b s₀ h g tk m o old prod k tl its X
    refine seg_forLoop ?_
    have hn : x.cps[i]? = none := by
      have := X.r_
      rw [List.drop_eq_nil_iff] at this
      simpa using this
    refine ene_ (hA _) X.D X.o_ hn fun h' D => ?_
    exact hend s₀ i b h' g tk m prod k tl its D X.b_ X.p_ X.S_ X.g_ X.t_ X.i_ X.f_ X.z_
  | cons ch r ih =>
    intro i b s₀ h g tk m o old prod k tl its X
    refine seg_forLoop ?_
    have hr := X.r_
    have hlt : i < x.cps.toList.length := by
      apply Nat.lt_of_not_le
      intro q
      rw [List.drop_eq_nil_of_le q] at hr; cases hr
    rw [List.drop_eq_getElem_cons hlt] at hr
    have hc : x.cps[i]? = some ch := by
      rw [← Array.getElem?_toList, List.getElem?_eq_getElem hlt]
      exact congrArg some (List.cons.inj hr).1
    refine ent2_ (hA _) X.D X.o_ hc (fun h' o' ti tk' ht ho' D => ?_) hk hxi hxv
    exact hturn i b ch r (fun s₀ h g tk m o old prod k tl its => ih (i + 1) _ s₀ h g tk m o old prod k tl its) s₀ h' g tk' m o' _ prod k tl its ti tk (List.cons.inj hr).2 X.b_ D ho' X.S_ X.g_ (Nat.le_of_lt (Nat.lt_of_le_of_lt X.t_ ht)) X.i_ X.f_ X.z_
end
end Mine

end
section
open PySem PySem.W PyProof.Rows PySem.Calls
namespace Mine
local macro_rules | `(tactic| walk_at "lk") => `(tactic| first | assumption | exact if_pos rfl | (refine (if_neg (by decide)).trans ?_; walk_at "lk") | rfl)
section
variable {w : World} {A : Around} {R : Result → Shared → Prop} {h : Heap} {g : Array GenState} {d : Drawn} {t : Nat} {os : OsState} {E : Value → Shared → Prop}

theorem cat_ {x y : Str} {u v : Tok} {Q : Value → Shared → Prop} (hsz : x.length + y.length ≤ 100000) (k : ∀ u tk, t ≤ tk → Q (.str (x ++ y) u) ⟨h, g, d, tk, os⟩) : wpAny (model PP w) A (binaryOp .Add (.str x u) (.str y v)) Q E ⟨h, g, d, t, os⟩ :=
  wpAny_with_toks (n := t) (Nat.le_refl _) (SB.add (s := ⟨h, g, d, t, os⟩) (fun t' k' hT => k t' k' hT) (Nat.le_trans hsz (Nat.le_of_ble_eq_true rfl)))
theorem s_back : (Str.ofString "\\") = ⟨#[92]⟩ := by decide +kernel
/-- a generator made, ready to be drained -/
def GenReady (w : World) (h : Heap) (g : Array GenState) (d : Drawn) (t : Nat) (os : OsState) (x : Str) (I : Addr) (s₁ : Shared) : Prop :=
  ∃ h₁ gs tk C m o, s₁ = ⟨h₁, g.push gs, d, tk, os⟩ ∧ t ≤ tk ∧ Led h C h₁ m [(I, o)] ∧ (∃ nm qn, o.cls = .type "generator" ∧ o.data = .fields #[.int g.size 0, nm, qn] ∧ o.slots = #[]) ∧
    ∀ (A₃ : Around) S h'' g'' tk'' c'', A₃.handled = none → Led h C h'' m [(S, lstN [] c''), (I, o)] →
      gs.Goes (model PP w) A₃ (GR h C S d os (esc 0 false x.cps.toList)) (GY (I, o) h C S d os (esc 0 false x.cps.toList)) (esc 0 false x.cps.toList).length (.send .none) ⟨h'', g'', d, tk'', os⟩

set_option maxRecDepth 20000 in
theorem gen_C {x : Str} {tx : Tok} (B : Base w h) (hroom : A.depth < recursionLimit) (hx : x.cps.size ≤ 1000)
    (k : ∀ I s₁, GenReady w h g d t os x I s₁ → R (.ok (.ret (.ref I))) s₁) :
    codeAny (model PP w) A (.call (.ref 38) ⟨[.str x tx], []⟩) R ⟨h, g, d, t, os⟩ := by
  have ho := B.X 38 _ rfl
  refine codeAny_call_generator (s := ⟨h, g, d, t, os⟩) hroom ho rfl rfl rfl rfl (code_of B (by kernel_rfl)) ?_
  clear ho
  refine wpAny_of_eq (a := ([("addr", Value.str x tx)] : List (Str × Value))) rfl ?_
  refine wpAny_newFunctionEnv (by decide) (locs rfl) (fun h₁ hns hsb => ?_) rfl
  have hl : h₁.NoLimit := B.nolimit.fresh _ hsb
  refine ⟨hl, ?_⟩
  have D0 : Led h h.objs.size h₁ (fun y => ([("addr", Value.str x tx)] : List (Str × Value)).reverse.lookup y) [] :=
    Led.start ⟨hns, fun b o e => hsb.extBut b o (Nat.ne_of_lt (Heap.lt_size e)) (Heap.get?_push_of_some _ e), Nat.le_refl _⟩
  refine k _ _ ⟨_, _, _, h.objs.size, _, _, rfl, ?_, D0.push _, ⟨_, _, rfl, rfl, rfl⟩, ?_⟩
  · dsimp only
    exact Nat.le_trans (Nat.le_add_right t _) (Nat.le_trans (Nat.le_succ _) (Nat.le_succ _))
  · intro A₃ S h'' g'' tk'' c'' hA3 D
    have hz : h''.get? S = some (lstN [] c'') := D.get0
    refine ⟨rfl, seg_func (seg_execs_cons (seg_plain (asg_ (ci_ fun u1 tk1 hT1 => sn_ D fun h1 tk2 hT2 D => ?_))))⟩
    refine seg_execs_cons (seg_plain (asg_ (wpAny_Constant_bool (sn_ D fun h2 tk3 hT3 D => ?_))))
    refine seg_execs_cons (seg_For (fun _ => rfl) (Call_ (bn_ (D.weak (fun _ _ e => e) (Nat.le_refl _)) B n_enumerate b_enumerate (by decide) (Pv.callWith_type1 (spliced_more (ln_ D (v := .str x tx) (by walk_at "lk") (spliced_none (enm_ D fun h3 e it o3 ho3 D => wpAny_pyIter_enum (s := ⟨h3, g'', d, tk3, os⟩) D.get0 fun p => ?_))))))))
    refine gen_loop (fun c => by show (marksOver _ (A₃.handled, A₃.handled)).1 = none; rw [hA3]; rfl) ?_ ?_ rfl rfl rfl _ 0 false _ h3 g'' tk3 _ o3 .none [] c'' _ [] ⟨D, ho3, rfl, by walk_at "lk", fun z => (by cases z), hz, rfl, by show tk'' ≤ tk3; omega, rfl, ⟨rfl, fun k it e => by simp at e⟩, .head _⟩
    · intro s₀ i b h4 g4 tk4 m4 prod k4 tl its D b_ p_ S_ g_ t_ i_ f_ z_
      refine seg_leaf (.ok .next) ?_
      refine seg_execs_cons (seg_If (wpAny_isTrue_value (ln_ D (v := .bool b) b_ (wpAny_truthy_bool ?_))))
      cases b with
      | false =>
        rw [if_neg (by decide)]
        refine seg_execs_nil (seg_execs_nil (seg_end (.ok (.ret .none)) ⟨rfl, rfl, h4, tk4, m4, tl, prod, k4, by rw [g_], t_, D, S_, ?_⟩))
        rw [i_]; simpa [esc] using f_
      | true =>
        rw [if_pos rfl]
        obtain ⟨up, hp⟩ := p_ rfl
        refine seg_execs_cons (seg_yield2 (its := its) (its' := esc i true []) rfl rfl rfl S_ i_ rfl ?_)
        refine Tuple_ (spliced_more (ln_ D (v := .int ((i - 1 : Nat) : Int) up) hp (spliced_more (cs_ fun u5 tk5 h5 h5' => spliced_none ?_))))
        rw [s_back]
        refine nt_ D (Nat.le_of_ble_eq_true rfl) fun h6 tp K _ D => ?_
        refine ⟨h6, tk5, m4, _, _, by rw [g_], by omega, D.perm (List.Perm.swap ..), _, _, rfl, .tail _ z_, fun p hp => hp, f_.snoc, fun h'' g'' tk'' prod'' c'' s₁ hT2 hP2 D2 hs1 => ?_⟩
        subst hs1
        refine seg_execs_nil (seg_execs_nil (seg_end (.ok (.ret .none)) ⟨rfl, rfl, h'', tk'', m4, _, prod'', c'', rfl, Nat.le_refl _, D2, D2.get0, ?_⟩))
        rw [i_]; simpa [esc] using hP2
    · intro i b ch r IH s₀ h4 g4 tk4 m4 o old prod k4 tl its ti tc r_ b_ D o_ S_ g_ t_ i_ f_ z_
      refine seg_execs_cons (seg_If (wpAny_isTrue_value (ln_ D (v := .bool b) (by walk_at "lk") (wpAny_truthy_bool ?_))))
      cases b with
      | true =>
        rw [if_pos rfl]
        simp only [Bool.not_true, Bool.false_and] at IH
        refine seg_execs_cons (seg_yield2 (its := its) (its' := esc i true (ch :: r)) rfl rfl rfl S_ i_ rfl ?_)
        refine Tuple_ (spliced_more (ln_ D (v := .int (i : Nat) ti) (by walk_at "lk") (spliced_more (wpAny_BinOp (cs_ fun u5 tk5 h5 h5' => ?_)))))
        rw [s_back]
        refine ln_ D (v := .str ⟨#[ch]⟩ tc) (by walk_at "lk") (cat_ (by show 1 + 1 ≤ 100000; decide) fun u6 tk6 hT6 => spliced_none ?_)
        rw [show (⟨#[92]⟩ : Str) ++ ⟨#[ch]⟩ = ⟨[92, ch].toArray⟩ from rfl]
        refine nt_ D (Nat.le_of_ble_eq_true rfl) fun h6 tp K _ D => ?_
        refine ⟨h6, tk6, _, _, (tp, tup [.int (i : Nat) ti, .str ⟨[92, ch].toArray⟩ u6]) :: tl, by rw [g_], by omega, D.perm (List.perm_middle (l₁ := [_, _, _])).symm, _, _, rfl, .tail _ z_, fun p hp => ?_, f_.snoc, fun h'' g'' tk'' prod'' c'' s₁ hT2 hP2 D2 hs1 => ?_⟩
        · rcases List.mem_cons.mp hp with rfl | hp
          · exact .head _
          · exact .tail _ (.tail _ (.tail _ hp))
        subst hs1
        have hS2 := D2.get0
        have D := D2.perm ((List.perm_append_comm (l₁ := [_, _]) (l₂ := [_, _])).append_right tl)
        refine seg_execs_cons (seg_plain (asg_ (wpAny_Constant_bool (sn_ D fun h7 tk7 hT7 D => ?_))))
        refine seg_execs_nil (seg_execs_nil (seg_again rfl ?_))
        exact IH _ h7 g'' tk7 _ o old prod'' c'' _ (its ++ [(i, [92, ch])]) ⟨D, o_, r_, by walk_at "lk", fun z => (by cases z), hS2, rfl, hT7, by rw [i_]; simp [esc], hP2, .tail _ z_⟩
      | false =>
        rw [if_neg (by decide)]
        refine seg_execs_cons (seg_If (wpAny_isTrue_Compare1 (ln_ D (v := .str ⟨#[ch]⟩ tc) (by walk_at "lk") (cs_ fun u5 tk5 h5 h5' => ?_))))
        rw [s_back]
        refine PyProof.Rows.eq_str (wpAny_truthy_bool ?_)
        have q : ((⟨#[ch]⟩ : Str) == ⟨#[92]⟩) = decide (ch = 92) := by by_cases r : ch = 92 <;> simp [r]
        rw [q]
        by_cases hch : ch = 92
        · rw [decide_eq_true hch, if_pos rfl]
          subst hch
          simp only [Bool.not_false, Bool.true_and, beq_self_eq_true] at IH
          refine seg_execs_cons (seg_plain (asg_ (wpAny_Constant_bool (sn_ D fun h7 tk7 hT7 D => ?_))))
          refine seg_execs_nil (seg_execs_nil (seg_execs_nil (seg_again rfl ?_)))
          have e1 : esc i false (92 :: r) = esc (i + 1) true r := by simp [esc]
          rw [e1] at i_ ⊢
          exact IH _ h7 g4 tk7 _ o old prod k4 tl its ⟨D, o_, r_, by walk_at "lk", fun _ => ⟨ti, by walk_at "lk"⟩, S_, g_, by omega, i_, f_, z_⟩
        · rw [decide_eq_false hch, if_neg (by decide)]
          have hb : (!false && ch == 92) = false := by simpa using hch
          rw [hb] at IH
          have e1 : esc i false (ch :: r) = (i, [ch]) :: esc (i + 1) false r := by simp [esc, hch]
          rw [e1] at i_ ⊢
          refine seg_execs_cons (seg_yield2 (its := its) (its' := (i, [ch]) :: esc (i + 1) false r) rfl rfl rfl S_ i_ rfl ?_)
          refine Tuple_ (spliced_more (ln_ D (v := .int (i : Nat) ti) (by walk_at "lk") (spliced_more (ln_ D (v := .str ⟨#[ch]⟩ tc) (by walk_at "lk") (spliced_none ?_)))))
          refine nt_ D (Nat.le_of_ble_eq_true rfl) fun h6 tp K _ D => ?_
          refine ⟨h6, tk5, _, _, (tp, tup [.int (i : Nat) ti, .str ⟨[ch].toArray⟩ tc]) :: tl, by rw [g_], by omega, D.perm (List.perm_middle (l₁ := [_, _, _])).symm, _, _, rfl, .tail _ z_, fun p hp => ?_, f_.snoc, fun h'' g'' tk'' prod'' c'' s₁ hT2 hP2 D2 hs1 => ?_⟩
          · rcases List.mem_cons.mp hp with rfl | hp
            · exact .head _
            · exact .tail _ (.tail _ (.tail _ hp))
          subst hs1
          have hS2 := D2.get0
          have D := D2.perm ((List.perm_append_comm (l₁ := [_, _]) (l₂ := [_, _])).append_right tl)
          refine seg_execs_nil (seg_execs_nil (seg_execs_nil (seg_again rfl ?_)))
          exact IH _ h'' g'' tk'' _ o old prod'' c'' _ (its ++ [(i, [ch])]) ⟨D, o_, r_, by walk_at "lk", fun z => (by cases z), hS2, rfl, Nat.le_refl _, by rw [i_]; simp, hP2, .tail _ z_⟩
end
end Mine

end
section
open PySem PySem.W PyProof.Rows PySem.Calls
namespace Mine
section
variable {w : World} {A : Around} {h : Heap} {g : Array GenState} {d : Drawn} {t : Nat} {os : OsState} {E : Value → Shared → Prop}
theorem lst_inj {vs vs' : List Value} {n n' : Nat} (h : lstN vs n = lstN vs' n') : vs = vs' ∧ n = n' := by
  have e : (Data.seq vs.toArray n) = Data.seq vs'.toArray n' := congrArg Obj.data h
  injection e with e1 e2
  exact ⟨by simpa using congrArg Array.toList e1, e2⟩

/-- a turn of the draining -/
def DSt (w : World) (A₃ : Around) (h : Heap) (g : Array GenState) (d : Drawn) (t : Nat) (os : OsState) (ITS : List (Nat × List Nat)) (I C S : Addr) (o : Obj) (i : Nat) (vs : List Value) (c : Nat) (s : Shared) : Prop :=
  ∃ h' gs tk m own tl its its', s = ⟨h', g.push gs, d, tk, os⟩ ∧ t ≤ tk ∧ Led h C h' m ((S, lstN vs c) :: own) ∧ (I, o) ∈ tl ∧ (∀ p ∈ tl, p ∈ own) ∧ ITS = its ++ its' ∧ its.length = i ∧ PF its vs tl ∧
    ∀ h'' g'' tk'' prod'' c'', tk ≤ tk'' → PF its prod'' tl → Led h C h'' m ((S, lstN prod'' c'') :: own) →
      gs.Goes (model PP w) A₃ (GR h C S d os ITS) (GY (I, o) h C S d os ITS) its'.length (.send .none) ⟨h'', g'', d, tk'', os⟩
def DFin (h : Heap) (g : Array GenState) (d : Drawn) (t : Nat) (os : OsState) (ITS : List (Nat × List Nat)) (C S : Addr) (vs : List Value) (c : Nat) (s : Shared) : Prop :=
  ∃ h' tk m own, s = ⟨h', g.push .finished, d, tk, os⟩ ∧ t ≤ tk ∧ Led h C h' m ((S, lstN vs c) :: own) ∧ PF ITS vs own

theorem setGen_push (h : Heap) (d : Drawn) (tk : Nat) (os : OsState) (x y : GenState) : (⟨h, g.push x, d, tk, os⟩ : Shared).setGen g.size y = ⟨h, g.push y, d, tk, os⟩ := by
  unfold Shared.setGen
  have e : (g.push x).setIfInBounds g.size y = g.push y := by
    apply Array.ext_getElem?
    intro i
    rw [Array.getElem?_setIfInBounds]
    by_cases q : g.size = i
    · subst q; simp
    · rw [if_neg q, Array.getElem?_push, Array.getElem?_push, if_neg (Ne.symm q), if_neg (Ne.symm q)]
  show ({ heap := h, gens := (g.push x).setIfInBounds g.size y, drawn := d, toks := tk, os := os } : Shared) = _
  rw [e]

theorem glist_C {x : Str} {I : Addr} {s₁ : Shared} {Q : Value → Shared → Prop} (B : Base w h) (hA : A.handled = none) (hroom : A.depth < recursionLimit) (hx : (esc 0 false x.cps.toList).length ≤ 1000) (G : GenReady w h g d t os x I s₁)
    (k : ∀ h' tk C m own vs c S, t ≤ tk → Led h C h' m ((S, lstN vs c) :: own) → PF (esc 0 false x.cps.toList) vs own → Q (.ref S) ⟨h', g.push .finished, d, tk, os⟩) :
    wpAny (model PP w) A (call (.type "list") [.ref I]) Q E s₁ := by
  obtain ⟨h₁, gs, tk, C, m, o, rfl, hT, D, ⟨nm, qn, o1, o2, o3⟩, hgo⟩ := G
  have hI := D.get0
  have hg : ∀ h' : Heap, h'.get? I = some o → h'.IsGen I g.size := fun h' e => ⟨o, nm, qn, e, o1, o2, o3⟩
  have room : A.in1.in1.depth < recursionLimit := hroom
  generalize hITS : esc 0 false x.cps.toList = ITS at hgo k hx
  have W : Drains PP w A.in1.in1 I h₁.objs.size ITS.length (DSt w A.in1.in1.in1 h g d t os ITS I C h₁.objs.size o) (DFin h g d t os ITS C h₁.objs.size) := by
    refine ⟨?_, ?_, ?_⟩
    · rintro i vs c s ⟨h', gs, tk, m, own, tl, its, its', rfl, hT, D, hZ, htl, hi, hl, hP, hgo⟩
      refine ⟨?_, D.get0⟩
      rw [hP.1]
      have := congrArg List.length hi
      rw [List.length_append] at this
      omega
    · rintro i vs c s Q E hlt ⟨h', gs, tk, m, own, tl, its, its', rfl, hT, D, hZ, htl, hi, hl, hP, hgo⟩ hQ
      have hlen := congrArg List.length hi
      rw [List.length_append] at hlen
      obtain ⟨n', hn'⟩ : ∃ n', its'.length = n' + 1 := ⟨its'.length - 1, by omega⟩
      have hIo : h'.get? I = some o := D.get (.tail _ (htl _ hZ))
      have hgo0 := hgo h' (g.push .running) tk vs c (Nat.le_refl _) hP D
      refine wpAny_pyNext_gen (s := ⟨h', g.push gs, d, tk, os⟩) (gs := gs) (g := g.size) (n := its'.length) (Y := GY (I, o) h C h₁.objs.size d os ITS)
        (P := fun n s₀ s₁ => n = 0 ∧ ∃ h₁' tk₁ m1 own prod c, s₁ = ⟨h₁', s₀.gens, d, tk₁, os⟩ ∧ s₀.toks ≤ tk₁ ∧ Led h C h₁' m1 ((h₁.objs.size, lstN prod c) :: own) ∧ s₀.heap.get? h₁.objs.size = some (lstN prod c) ∧ PF ITS prod own)
        hA (D.base B).nolimit room (hg h' hIo) (by simp) (by rw [setGen_push]; exact hgo0) (fun v s₁ gs' hy => ?_) (fun s₁ hp h'' hk => ?_)
      · obtain ⟨h2, tk2, m2, own2, tl2, prod, c2, its2, its2', rfl, hT2, D2, hS2, hi2, hl2, hZ2, htl2, hP2, hkap⟩ := hy
        rw [setGen_push] at hS2 hT2 ⊢
        have e0 := hS2.symm.trans D.get0
        obtain ⟨rfl, rfl⟩ := lst_inj (Option.some.inj e0)
        have hset : (⟨h2, (⟨h', g.push .running, d, tk, os⟩ : Shared).gens, d, tk2, os⟩ : Shared).setGen g.size gs' = ⟨h2, g.push gs', d, tk2, os⟩ := setGen_push h2 d tk2 os .running gs'
        rw [hset]
        refine hQ v _ D2.get0 fun h'' hk hS => ?_
        have hT3 : t ≤ tk2 := Nat.le_trans hT hT2
        have hlen2 := congrArg List.length hi2
        rw [List.length_append] at hlen2
        refine ⟨h'', gs', tk2, m2, own2, tl2, its2, its2', rfl, hT3, D2.upd hk hS, hZ2, htl2, hi2, by omega, hP2, fun h3 g3 tk3 prod3 c3 hT4 hP4 D4 => ?_⟩
        have := hkap h3 g3 tk3 prod3 c3 hT4 hP4 D4
        rw [hn'] at this
        rw [hl2, hn']
        exact this
      · exact absurd hp.1 (by omega)
    · rintro vs c s Q E ⟨h', gs, tk, m, own, tl, its, its', rfl, hT, D, hZ, htl, hi, hl, hP, hgo⟩ hQ
      have hlen := congrArg List.length hi
      rw [List.length_append] at hlen
      have hn' : its'.length = 0 := by omega
      have hIo : h'.get? I = some o := D.get (.tail _ (htl _ hZ))
      have hgo0 := hgo h' (g.push .running) tk vs c (Nat.le_refl _) hP D
      refine wpAny_pyNext_gen (s := ⟨h', g.push gs, d, tk, os⟩) (gs := gs) (g := g.size) (n := its'.length) (Y := GY (I, o) h C h₁.objs.size d os ITS)
        (P := fun n s₀ s₁ => n = 0 ∧ ∃ h₁' tk₁ m1 own prod c, s₁ = ⟨h₁', s₀.gens, d, tk₁, os⟩ ∧ s₀.toks ≤ tk₁ ∧ Led h C h₁' m1 ((h₁.objs.size, lstN prod c) :: own) ∧ s₀.heap.get? h₁.objs.size = some (lstN prod c) ∧ PF ITS prod own)
        hA (D.base B).nolimit room (hg h' hIo) (by simp) (by rw [setGen_push]; exact hgo0) (fun v s₁ gs' hy => ?_) (fun s₁ hp h'' hk => ?_)
      · obtain ⟨h2, tk2, m2, own2, tl2, prod, c2, its2, its2', rfl, hT2, D2, hS2, hi2, hl2, hZ2, htl2, hP2, hkap⟩ := hy
        have := hkap (h2.update h₁.objs.size (fun _ => lstN (prod ++ [v]) c2)) g tk2 (prod ++ [v]) c2 (Nat.le_refl _) hP2 (D2.upd (o' := lstN (prod ++ [v]) c2) (fun b x hb e => (Heap.get?_update_other _ _ (Ne.symm hb)).trans e) (Heap.get?_update_self _ D2.get0 rfl))
        rw [hn'] at this; exact this.elim
      · obtain ⟨_, h2, tk2, m2, own2, prod, c2, rfl, hT2, D2, hS2, hP2⟩ := hp
        rw [setGen_push] at hS2 hT2 ⊢
        have e0 := hS2.symm.trans D.get0
        obtain ⟨rfl, rfl⟩ := lst_inj (Option.some.inj e0)
        have hset : (⟨h2, (⟨h', g.push .running, d, tk, os⟩ : Shared).gens, d, tk2, os⟩ : Shared).setGen g.size .finished = ⟨h2, g.push .finished, d, tk2, os⟩ := setGen_push h2 d tk2 os .running .finished
        rw [hset]
        exact hQ _ ⟨h'', tk2, m2, own2, rfl, Nat.le_trans hT hT2, D2.keep hk, hP2⟩
  refine list_gen_ (n := ITS.length) (St := DSt w A.in1.in1.in1 h g d t os ITS I C h₁.objs.size o) (Fin := DFin h g d t os ITS C h₁.objs.size) ⟨o, hI, o1⟩ (Heap.lt_size hI) W (fun s Q E _ hg hq => let ⟨_, x⟩ := hg; wpAny_pyIter_gen x hq) ⟨_, hg _ hI⟩ (fun h' c hk hS => ?_) fun vs c s' hf => ?_
  · have hn : h₁.get? h₁.objs.size = none := Heap.get?_none_of_le (Nat.le_refl _)
    have D1 : Led h C h' m [(h₁.objs.size, lstN [] c), (I, o)] := D.new hk hS hn
    refine ⟨h', gs, tk, m, [(I, o)], [(I, o)], [], ITS, rfl, hT, D1, .head _, fun p hp => hp, rfl, rfl, ⟨rfl, fun k it e => by simp at e⟩, fun h'' g'' tk'' prod'' c'' hT2 hP2 D2 => ?_⟩
    have hp0 : prod'' = [] := List.length_eq_zero_iff.mp hP2.1
    subst hp0
    exact hgo _ _ _ _ _ _ hA D2
  · obtain ⟨h', tk', m', own, rfl, hT', D', hP'⟩ := hf
    exact k h' tk' C m' own vs c _ hT' D' hP'
end
end Mine

end
section
open PySem PySem.W PyProof.Rows PySem.Calls PySem.Spec PySem.SeqAt PyProof.V
namespace Mine
def dP (it : Nat × List Nat) : PyData := .tuple [.int (it.1 : Nat), .str ⟨it.2.toArray⟩]
inductive Prs (h : Heap) : List Value → List (Nat × List Nat) → Prop
  | nil : Prs h [] []
  | cons {a u u' it vs its} : h.get? a = some (tup [.int (it.1 : Nat) u, .str ⟨it.2.toArray⟩ u']) → Prs h vs its → Prs h (.ref a :: vs) (it :: its)
theorem prs_of {h : Heap} : ∀ (its : List (Nat × List Nat)) (vs : List Value), vs.length = its.length →
    (∀ (k : Nat) (it : Nat × List Nat), its[k]? = some it → ∃ (a : Addr) (u u' : Tok), vs[k]? = some (Value.ref a) ∧ h.get? a = some (tup [.int (it.1 : Nat) u, .str ⟨it.2.toArray⟩ u'])) → Prs h vs its
  | [], [], _, _ => .nil
  | [], _ :: _, e, _ => by simp at e
  | _ :: _, [], e, _ => by simp at e
  | it :: its, v :: vs, e, H => by
    obtain ⟨a, u, u', e1, e2⟩ := H 0 it rfl
    have : v = .ref a := by simpa using e1
    subst this
    exact .cons e2 (prs_of its vs (by simpa using e) fun k it hk => by
      obtain ⟨a, u, u', e1, e2⟩ := H (k + 1) it (by simpa using hk)
      exact ⟨a, u, u', by simpa using e1, e2⟩)
theorem PF.prs {h₀ h : Heap} {L : Addr} {m : Str → Option Value} {cs own : List (Addr × Obj)} {its : List (Nat × List Nat)} {vs : List Value} (x : PF its vs own) (D : Led h₀ L h m cs) (ho : ∀ p ∈ own, p ∈ cs) : Prs h vs its :=
  prs_of its vs x.1 fun k it hk => let ⟨a, u, u', e1, e2⟩ := x.2 k it hk; ⟨a, u, u', e1, D.get (ho _ e2)⟩
theorem readsAll_prs {h : Heap} : ∀ {vs : List Value} {its : List (Nat × List Nat)}, Prs h vs its → ReadsAll h vs (its.map dP) []
  | _, _, .nil => .nil
  | _, _, .cons (it := it) (u := u) (u' := u') e r => by
    have e1 : Reads h (.ref _) (dP it) [] := Reads.tuple (vs := #[.int (it.1 : Nat) u, .str ⟨it.2.toArray⟩ u']) e rfl rfl (by
      have := ReadsAll.cons (Reads.int (h := h) (it.1 : Nat) u) (ReadsAll.cons (Reads.str (h := h) ⟨it.2.toArray⟩ u') ReadsAll.nil)
      simpa using this)
    have := ReadsAll.cons e1 (readsAll_prs r)
    simpa using this
theorem canLay_prs : ∀ its : List (Nat × List Nat), (∀ it ∈ its, PyData.strOk ⟨it.2.toArray⟩ = true) → PyData.canLayAll0 (its.map dP) = true
  | [], _ => by simp [PyData.canLayAll0]
  | n :: r, h => by simp [PyData.canLayAll0, PyData.canLay0, dP, canLay_prs r fun it hi => h it (.tail _ hi), h n (.head _)]
theorem depth_prs : ∀ its : List (Nat × List Nat), PyData.depthAll (its.map dP) ≤ 3
  | [] => by simp [PyData.depthAll]
  | n :: r => by
    have := depth_prs r
    simp only [List.map_cons, PyData.depthAll, PyData.depth, dP]
    omega
theorem shaped_prs (its : List (Nat × List Nat)) (hok : ∀ it ∈ its, PyData.strOk ⟨it.2.toArray⟩ = true) : shaped (.list (its.map dP)) = true := by
  have h1 := depth_prs its
  have h2 : PyData.depth (.list (its.map dP)) ≤ 64 := by simp only [PyData.depth]; omega
  show (PyData.canLay0 (.list (its.map dP)) && decide (PyData.depth (.list (its.map dP)) ≤ 64)) = true
  rw [Bool.and_eq_true]
  exact ⟨by simp only [PyData.canLay0]; exact canLay_prs its hok, decide_eq_true h2⟩
theorem noMix_prs : ∀ ns ms : List (Nat × List Nat), noMixAll (ns.map dP) (ms.map dP) = true
  | [], [] => by simp [noMixAll]
  | [], _ :: _ => by simp [noMixAll]
  | _ :: _, [] => by simp [noMixAll]
  | _ :: r, _ :: q => by simp [noMixAll, noMix, dP, noMix_prs r q]
section
variable {prog : Program} {w : World} {A : Around} {E : Value → Shared → Prop} {s : Shared}
theorem ne_pairs_ {a b : Addr} {vs us : List Value} {n n' : Nat} {its : List (Nat × List Nat)} {Q : Value → Shared → Prop} (ha : s.heap.get? a = some (lstN vs n)) (hb : s.heap.get? b = some (lstN us n')) (pa : Prs s.heap vs its) (pb : Prs s.heap us its)
    (hok : ∀ it ∈ its, PyData.strOk ⟨it.2.toArray⟩ = true) (hu : A.units + 64 < cLine) (k : Q (.bool false) s) : wpAny (model prog w) A (compareOp .NotEq (.ref a) (.ref b)) Q E s := by
  have ra : Reads s.heap (.ref a) (.list (its.map dP)) [a] := Reads.list ha rfl rfl (by simpa using readsAll_prs pa)
  have rb : Reads s.heap (.ref b) (.list (its.map dP)) [b] := Reads.list hb rfl rfl (by simpa using readsAll_prs pb)
  refine ne_dataH_same ra rb (shaped_prs its hok) (shaped_prs its hok) hu (by simp only [noMix]; exact noMix_prs its its) ?_
  rw [same_refl]
  exact k
end
end Mine

end
section
open PySem PySem.W PyProof.Rows PySem.Calls
namespace Mine
section
variable {w : World} {A : Around} {R : Result → Shared → Prop} {h₀ h : Heap} {g : Array GenState} {d : Drawn} {t : Nat} {os : OsState} {E : Value → Shared → Prop} {L a : Addr} {m : Str → Option Value} {cs : List (Addr × Obj)} {env : Env}
/-- a for over range(n) -/
theorem gfr_ {n : Nat} {u : Tok} {y : Str} {px : Pos} {body : List Stmt} {Q : Flow → Shared → Prop}
    (hA : A.handled = none) (Inv : Nat → (Str → Option Value) → List (Addr × Obj) → Prop) (D : Led h₀ env.locals h m cs) (hn : (n : Int) < 2 ^ 62) (h0 : Inv 0 m cs)
    (turn : ∀ I o₁ i u m₁ cs₁ h' tk, t ≤ tk → i < n → Inv i m₁ cs₁ → Led h₀ env.locals h' (fun z => if z = y then some (.int (i : Nat) u) else m₁ z) ((I, o₁) :: cs₁) →
      wpAny (model PP w) A (execs body env) (fun f s₂ => match f with
        | .ret v => Q (.ret v) s₂
        | .brk => Q .next s₂
        | _ => ∃ h'' tk' m' cs', s₂ = ⟨h'', g, d, tk', os⟩ ∧ Led h₀ env.locals h'' m' ((I, o₁) :: cs') ∧ Inv (i + 1) m' cs') NoE ⟨h', g, d, tk, os⟩)
    (done : ∀ h' tk m₁ cs₁, t ≤ tk → Inv n m₁ cs₁ → Led h₀ env.locals h' m₁ cs₁ → Q .next ⟨h', g, d, tk, os⟩)
    (hk : env.scope.kind = .function := by rfl) (hx : env.kindOf y = some .local := by rfl) :
    wpAny (model PP w) A (call (.type "range") [.int (n : Nat) u]) (fun r s₁ => wpAny (model PP w) A (pyIter r) (fun it s₂ => codeAny (model PP w) A (.forLoop (.Name y px) it body [] env) (fun r s' => match r with | .ok f => Q f s' | .error e => cameBackBy (model PP w) A env NoE e s') s₂) NoE s₁) NoE ⟨h, g, d, t, os⟩ := by
  refine call_range_1 (s := ⟨h, g, d, t, os⟩) ?_
  have D1 := D.push { cls := .type "range", data := .fields #[.int 0 t, .int (n : Nat) u, .int 1 (t + 1)] }
  have hsm : Builtin.Range.small 0 (n : Int) 1 = true := small_one (by decide) (by decide) (by omega) hn
  refine wpAny_pyIter_range D1.get0 hsm ?_
  have hsz : Builtin.Range.rangeSize 0 (n : Int) 1 = (n : Int) := by rw [rangeSize_one]; split <;> omega
  generalize hh1 : h.push { cls := .type "range", data := .fields #[.int 0 t, .int (n : Nat) u, .int 1 (t + 1)] } = h1 at D1
  have D2 := (D1.sub (.cons _ (List.Sublist.refl _))).push { cls := .type "range_iterator", data := .fields #[rawInt 0, rawInt (Builtin.Range.rangeSize 0 (n : Int) 1), rawInt 1] }
  have hst : IsRangeIter (h1.push { cls := .type "range_iterator", data := .fields #[rawInt 0, rawInt (Builtin.Range.rangeSize 0 (n : Int) 1), rawInt 1] }) h1.objs.size (0 + ((0 : Nat) : Int) * 1) ((n : Int) - ((0 : Nat) : Int)) 1 := by
    rw [hsz]; simpa using Heap.get?_push_size h1 rfl
  refine loopW (h₀ := h₀) (s := ⟨h1.push { cls := .type "range_iterator", data := .fields #[rawInt 0, rawInt (Builtin.Range.rangeSize 0 (n : Int) 1), rawInt 1] }, g, d, t + 1 + 1, os⟩) (WalkK.of (Walks.range (prog := PP) (w := w) hA h1.objs.size 0 1 n)) hx
    (by rw [hk]; rfl) Inv (fun b hb hbI => absurd (List.mem_singleton.mp hb) hbI) ?_ D2 hst h0 (fun i h' st => ⟨_, st⟩)
    (fun i v u m₁ cs₁ o₁ h' tk hT hU hlt hP hI D' => ?_) (fun h' tk m₁ cs₁ hT hI D' => done h' tk m₁ cs₁ (by dsimp only at hT; omega) hI D')
  · intro hm
    exact absurd D1.F.ns.lt (by show ¬ (env.locals < h1.objs.size); rw [show env.locals = h1.objs.size from List.mem_singleton.mp hm]; exact Nat.lt_irrefl _)
  · obtain ⟨u, rfl⟩ := hP
    have e : (0 : Int) + (i : Int) * 1 = (i : Int) := by omega
    rw [e] at D'
    exact turn h1.objs.size o₁ i u m₁ cs₁ h' tk (by dsimp only at hT; omega) hlt hI D'
/-- x.append(arg), x a list of the call's own -/
theorem gapx_ {x : Str} {l : Addr} {vs0 : List Value} {n0 : Nat} {arg : Expr} {p1 p2 p3 p4 : Pos} {pl : Sem Bool} {Q : Flow → Shared → Prop} (D : Led h₀ env.locals h m cs) (hx : m x = some (.ref l)) (hl : h.get? l = some (lstN vs0 n0))
    (k : wpAny (model PP w) A (eval arg env) (fun v s₁ => ∃ h' tk m' cs' vs n, s₁ = ⟨h', g, d, tk, os⟩ ∧ Led h₀ env.locals h' m' ((l, lstN vs n) :: cs') ∧ vs.length ≤ sizeLine ∧
      ∀ h'', Led h₀ env.locals h'' m' ((l, lstN (vs ++ [v]) (n + 1)) :: cs') → Q .next ⟨h'', g, d, tk, os⟩) E ⟨h, g, d, t, os⟩)
    (he : starEach [arg] env = (false, eval arg env) :: starEach [] env := by rfl)
    (hk : env.scope.kind = .function := by rfl) (hxl : env.kindOf x = some .local := by rfl) (hd : (x == ("__debug__" : Str)) = false := by decide)
    (hme : eval (.Call (.Attribute (.Name x p1) "append" p2) [arg] [] p3) env = (do
      let ov ← eval (.Name x p1) env
      standAt p2.atName
      let (f, first) ← holding [ov] (getMethod ov "append" pl)
      callWith p3 f first (backTo p3 (starEach [arg] env)) []) := by rfl)
    (hi : interactive env = false := by rfl) (hs : swapsWith (.Call (.Attribute (.Name x p1) "append" p2) [arg] [] p3) none p4.line env = pure false := by rfl) :
    wpAny (model PP w) A (exec (.Expr (.Call (.Attribute (.Name x p1) "append" p2) [arg] [] p3) p4) env) Q E ⟨h, g, d, t, os⟩ := by
  refine wpAny_Expr (MethodCall_ (pl := pl) ?_ hme) hi hs
  refine gln_ D hx ?_ hk hxl hd
  refine Calls.getMethod_list_append hl rfl rfl ?_
  refine callWith_method1 (spliced_more (wpAny_mono k (fun v s₁ h₁ => ?_) fun _ _ x => x) he) he
  obtain ⟨h', tk, m', cs', vs, n, rfl, D', hsz, kk⟩ := h₁
  refine spliced_none ?_
  refine append_at (s := ⟨h', g, d, tk, os⟩) (its := vs.toArray) (n := n) D'.get0 (fun h'' hs e => ?_) (by simpa using hsz)
  refine kk h'' (D'.upd (fun b y hb q => hs.extBut b y hb q) (e.trans ?_))
  simp [lstN]
/-- cells -/
abbrev clO (v : Option Value) : Obj := { cls := .type "cell", data := .cell v }
theorem gcl_ {x : Str} {pos : Pos} {c : Addr} {o : Obj} {v : Value} {Q : Value → Shared → Prop} (D : Led h₀ L h m cs) (hc : env.cells.lookup x = some c) (hm : (c, o) ∈ cs) (ho : o.data = .cell (some v)) (k : Q v ⟨h, g, d, t, os⟩)
    (hk : env.scope.kind = .function := by rfl) (hl : env.kindOf x = some .cell := by rfl) (hd : (x == ("__debug__" : Str)) = false := by decide) :
    wpAny (model PP w) A (eval (.Name x pos) env) Q E ⟨h, g, d, t, os⟩ := wpAny_Name (s := ⟨h, g, d, t, os⟩) (wpAny_loadName_cell hk hl hc ⟨o, D.get hm, ho⟩ k) hd
theorem gcs_ {x : Str} {c : Addr} {o : Obj} {v₀ : Option Value} {v : Value} {Q : Unit → Shared → Prop} (D : Led h₀ L h m ((c, o) :: cs)) (hc : env.cells.lookup x = some c) (ho : o.data = .cell v₀)
    (k : ∀ h' o', o'.data = .cell (some v) → Led h₀ L h' m ((c, o') :: cs) → Q () ⟨h', g, d, t, os⟩)
    (hk : env.scope.kind = .function := by rfl) (hl : env.kindOf x = some .cell := by rfl) : wpAny (model PP w) A (storeName env x v) Q E ⟨h, g, d, t, os⟩ :=
  wpAny_storeName_cell (s := ⟨h, g, d, t, os⟩) hk hl hc ⟨o, D.get0, ho⟩ fun h' hv hs => let ⟨o', e', d'⟩ := hv; k h' o' d' (D.upd (fun b y hb q => hs.extBut b y hb q) e')
theorem item_ {value slice : Expr} {l : Addr} {vs : List Value} {n : Nat} {i : Int} {u : Tok} {x : Value} {Q : Value → Shared → Prop} (hl : h.get? l = some (lstN vs n)) (h0 : 0 ≤ i) (hf : i < 2 ^ 63) (hx : vs[i.toNat]? = some x) (k : Q x ⟨h, g, d, t, os⟩)
    (hs : subscripted slice false (.ref l) (.int i u) = operate [.ref l, .int i u] (getItem (.ref l) (.int i u)) := by with_unfolding_all rfl) (hg : ∀ r, letTemporaryGo value (.ref l) r = pure () := by intro _; with_unfolding_all rfl) :
    wpAny (model PP w) A (subscriptTail value slice (.ref l) (.int i u)) Q E ⟨h, g, d, t, os⟩ := item_listL (s := ⟨h, g, d, t, os⟩) (lst_is hl) h0 hf hx k hs hg
theorem itemN_ {value slice : Expr} {l : Addr} {vs : List Value} {n : Nat} {u : Tok} {x : Value} {Q : Value → Shared → Prop} (hl : h.get? l = some (lstN vs n)) (hx : vs.getLast? = some x) (k : Q x ⟨h, g, d, t, os⟩)
    (hs : subscripted slice false (.ref l) (.int (-1) u) = operate [.ref l, .int (-1) u] (getItem (.ref l) (.int (-1) u)) := by with_unfolding_all rfl) (hg : ∀ r, letTemporaryGo value (.ref l) r = pure () := by intro _; with_unfolding_all rfl) :
    wpAny (model PP w) A (subscriptTail value slice (.ref l) (.int (-1) u)) Q E ⟨h, g, d, t, os⟩ := by
  have hne : vs ≠ [] := by rintro rfl; simp at hx
  have hp : 0 < vs.length := List.length_pos_iff.mpr hne
  refine subscriptTail_builtin (s := ⟨h, g, d, t, os⟩) (lst_is hl).typeIs slot_list_getitem.lookup (wpAny_getItem_list_neg (s := ⟨h, g, d, t, os⟩) (lst_is hl) (by decide) (by simp; omega) (by decide) ?_ k) hs hg
  rw [List.getLast?_eq_getElem?] at hx
  have e : ((-1 : Int) + (vs.toArray.size : Int)).toNat = vs.length - 1 := by simp; omega
  rw [e]
  simpa using hx
theorem len_list_ {l : Addr} {vs : List Value} {n : Nat} {Q : Value → Shared → Prop} (hl : h.get? l = some (lstN vs n)) (hs : vs.length ≤ 1000000) (k : ∀ u tk, t ≤ tk → Q (.int (vs.length : Nat) u) ⟨h, g, d, tk, os⟩) :
    wpAny (model PP w) A (call (.builtin "len") [.ref l]) Q E ⟨h, g, d, t, os⟩ := by
  refine PyProof.Rows.len_list (s := ⟨h, g, d, t, os⟩) (lst_is hl) (by simp; omega) ?_
  have := k (t + 1) (t + 1 + 1) (by omega)
  simpa using this
theorem addl_ {l b : Addr} {vs ws : List Value} {n n' : Nat} {Q : Value → Shared → Prop} (D : Led h₀ L h m cs) (hl : h.get? l = some (lstN vs n)) (hb : h.get? b = some (lstN ws n')) (hs : vs.length + ws.length ≤ 100000)
    (k : ∀ h' r, Led h₀ L h' m ((r, lst (vs ++ ws)) :: cs) → Q (.ref r) ⟨h', g, d, t, os⟩) : wpAny (model PP w) A (binaryOp .Add (.ref l) (.ref b)) Q E ⟨h, g, d, t, os⟩ := by
  refine add_lists (s := ⟨h, g, d, t, os⟩) D.F D.N (lst_is hl) (lst_is hb) (fun h' F N => k h' _ ⟨F, N, ?_⟩) (Nat.le_trans hs (Nat.le_of_ble_eq_true rfl))
  rw [List.map_cons, List.nodup_cons]
  refine ⟨fun hm => ?_, D.nd⟩
  obtain ⟨p, hp, e⟩ := List.mem_map.mp hm
  exact Nat.lt_irrefl _ (e ▸ D.lt hp)

/-- a loop over a list, the generators free to move -/
theorem loopG {I l : Addr} {items : Array Value} {x : Str} {px : Pos} {body : List Stmt} {Q : Flow → Shared → Prop} {o : Obj}
    (hA : A.handled = none) (hne : l ≠ I) (hx : env.kindOf x = some .local) (hkd : env.scope.kind = .function)
    (Inv : Nat → Array GenState → (Str → Option Value) → List (Addr × Obj) → Prop)
    (hlw : ∃ ol, ∀ i g m cs, Inv i g m cs → (l, ol) ∈ cs)
    (hLl : env.locals ≠ l) (hLI : env.locals ≠ I) (D : Led h₀ env.locals h m ((I, o) :: cs)) (hst : h.IsListIter I l 0 ∧ h.IsList l items) (h0 : Inv 0 g m cs)
    (turn : ∀ i v g₁ m₁ cs₁ o₁ h (tk : Nat), t ≤ tk → items[i]? = some v → Inv i g₁ m₁ cs₁ → Led h₀ env.locals h (fun y => if y = x then some v else m₁ y) ((I, o₁) :: cs₁) →
      wpAny (model PP w) A (execs body env) (fun f s₂ => match f with
        | .ret v => Q (.ret v) s₂
        | .brk => Q .next s₂
        | _ => ∃ h' g' tk' m' cs', s₂ = ⟨h', g', d, tk', os⟩ ∧ Led h₀ env.locals h' m' ((I, o₁) :: cs') ∧ Inv (i + 1) g' m' cs') NoE ⟨h, g₁, d, tk, os⟩)
    (done : ∀ h g₁ (tk : Nat) m₁ cs₁, t ≤ tk → Inv items.size g₁ m₁ cs₁ → Led h₀ env.locals h m₁ cs₁ → Q .next ⟨h, g₁, d, tk, os⟩) :
    codeAny (model PP w) A (.forLoop (.Name x px) (.ref I) body [] env) (fun r s' => match r with | .ok f => Q f s' | .error e => cameBackBy (model PP w) A env NoE e s') ⟨h, g, d, t, os⟩ := by
  have W := WalkK.of (Walks.list (prog := PP) (w := w) hA I l hne items)
  have hp : (env.scope.kind == .class || (env.scope.kind == .module && env.locals != env.globals)) = false := by rw [hkd]; rfl
  refine codeAny_forLoop
    (fun k s' => ∃ h' g' tk m' cs' o' i, t ≤ tk ∧ s' = ⟨h', g', d, tk, os⟩ ∧ (h'.IsListIter I l i ∧ h'.IsList l items) ∧ Led h₀ env.locals h' m' ((I, o') :: cs') ∧ Inv i g' m' cs' ∧ i ≤ items.size ∧ k = items.size + 1 - i) ?_ (items.size + 1)
    ⟨h, g, t, m, cs, o, 0, Nat.le_refl _, rfl, hst, D, h0, Nat.zero_le _, rfl⟩
  rintro k s' ⟨h', g', tk, m', cs', o', i, hT, rfl, hst', D', hI, hi, rfl⟩
  by_cases hlt : i < items.size
  · refine W.item i ⟨h', g', d, tk, os⟩ _ _ hlt hst' fun v h₁ tk₁ hP hU hst₁ hk₁ => ?_
    have hT₁ : t ≤ tk₁ := Nat.le_trans hT hU
    obtain ⟨o₁, ho₁, hr₁⟩ := hst₁.1
    have D₁ : Led h₀ env.locals h₁ m' ((I, o₁) :: cs') := D'.upd hk₁ ho₁
    refine wpAny_assign_Name (wpAny_storeName_local hx D₁.F.ns (fun h₂ hn₂ hs₂ => ?_) hp)
    have D₂ := D₁.set hn₂ hs₂
    have hst₂ : h₂.IsListIter I l (i + 1) ∧ h₂.IsList l items := W.frame (i + 1) _ _ hst₁ fun b hb o e => (hs₂.2 b fun q => by
      rcases List.mem_cons.mp hb with z | hb
      · exact hLI (q.symm.trans z)
      · exact hLl (q.symm.trans (List.mem_singleton.mp hb))).trans e
    refine wpAny_mono (wpAny_toks_of (n := t) (Nat.le_succ_of_le hT₁) (turn i v g' m' cs' o₁ h₂ _ (Nat.le_succ_of_le hT₁) hP hI D₂)) (fun f s₃ h₃ => ?_) fun _ _ e => e.2.elim
    obtain ⟨hT₃, h₃⟩ := h₃
    have fin : (∃ h' g'' tk' m' cs', s₃ = ⟨h', g'', d, tk', os⟩ ∧ Led h₀ env.locals h' m' ((I, o₁) :: cs') ∧ Inv (i + 1) g'' m' cs') → ∃ k', k' < items.size + 1 - i ∧
        ∃ h' g'' tk m' cs' o' j, t ≤ tk ∧ s₃ = ⟨h', g'', d, tk, os⟩ ∧ (h'.IsListIter I l j ∧ h'.IsList l items) ∧ Led h₀ env.locals h' m' ((I, o') :: cs') ∧ Inv j g'' m' cs' ∧ j ≤ items.size ∧ k' = items.size + 1 - j := by
      rintro ⟨h₄, g₄, tk₄, m₃, cs₃, e₄, D₃, I₃⟩
      refine ⟨items.size + 1 - (i + 1), by omega, h₄, g₄, tk₄, m₃, cs₃, o₁, i + 1, by rw [e₄] at hT₃; exact hT₃, e₄, ?_, D₃, I₃, hlt, rfl⟩
      obtain ⟨ol, hin⟩ := hlw
      refine W.frame (i + 1) _ _ hst₂ fun b hb o e => ?_
      rcases List.mem_cons.mp hb with z | hb
      · subst z
        rw [D₂.get0] at e; cases e
        exact D₃.get0
      · rw [List.mem_singleton.mp hb] at e ⊢
        rw [D₂.get (.tail _ (hin _ _ _ _ hI))] at e; cases e
        exact D₃.get (.tail _ (hin _ _ _ _ I₃))
    cases f with
    | ret v => exact h₃
    | brk => exact h₃
    | cont => exact fin h₃
    | next => exact fin h₃
  · have hin : i = items.size := by omega
    subst hin
    refine W.done ⟨h', g', d, tk, os⟩ _ _ hst' fun h₁ tk₁ hU hk₁ => wpAny_execs_nil ?_
    exact done h₁ g' tk₁ m' cs' (Nat.le_trans hT hU) hI (D'.lose hk₁)
end
end Mine

end
section
open PySem PySem.W PyProof.Rows PySem.Calls
namespace Mine
theorem up_get {h h' : Heap} {b : Addr} {o : Obj} (u : h.UpToSlots h') (e : h.get? b = some o) (hn : ∀ vs, o.data ≠ .fields vs) : ∃ sl, h'.get? b = some { o with slots := sl } := u b o e hn
/-- after a call that raised inside: every frame in sight changed its slots -/
theorem Led.slots {h₀ h h' : Heap} {L F1 : Addr} {m : Str → Option Value} {o1 : Obj} {cs : List (Addr × Obj)} (D : Led h₀ L h m ((F1, o1) :: cs)) (hk : ∀ b o, b ≠ L → b ≠ F1 → h.get? b = some o → h'.get? b = some o) (hu : h.UpToSlots h') (hn : ∀ vs, o1.data ≠ .fields vs) :
    ∃ sl, Led h₀ L h' m ((F1, { o1 with slots := sl }) :: cs) := by
  obtain ⟨sl, e⟩ := up_get hu D.get0 hn
  have H := D.N _ (.head _)
  have nd := D.nd
  rw [List.map_cons, List.nodup_cons] at nd
  refine ⟨sl, ⟨hu.ns D.F.ns, fun b o q => hk b o (fun z => ?_) (fun z => ?_) (D.F.keep b o q), D.F.above⟩, fun p hp => ?_, D.nd⟩
  · exact absurd (Heap.lt_size q) (by rw [z]; exact Nat.not_lt.mpr D.F.above)
  · rw [z] at q; have := H.2.2; dsimp only at this; rw [q] at this; cases this
  · rcases List.mem_cons.mp hp with rfl | hp
    · exact ⟨e, H.2⟩
    · have P := D.N p (.tail _ hp)
      exact ⟨hk _ _ P.2.1 (fun z => nd.1 (List.mem_map.mpr ⟨p, hp, z⟩)) P.1, P.2⟩
theorem Led.slots1 {h₀ h h' : Heap} {L : Addr} {m : Str → Option Value} {cs : List (Addr × Obj)} (D : Led h₀ L h m cs) (hk : ∀ b o, b ≠ L → h.get? b = some o → h'.get? b = some o) (hs : ∀ o, h.get? L = some o → ∃ sl, h'.get? L = some { o with slots := sl }) :
    Led h₀ L h' m cs := by
  obtain ⟨oL, es, ep, hL, hd, r⟩ := D.F.ns
  obtain ⟨sl, e⟩ := hs _ hL
  refine ⟨⟨⟨_, es, ep, e, hd, r⟩, fun b o q => hk b o (Nat.ne_of_lt (Nat.lt_of_lt_of_le (Heap.lt_size q) D.F.above)) (D.F.keep b o q), D.F.above⟩, fun p hp => ?_, D.nd⟩
  have P := D.N p hp
  exact ⟨hk _ _ P.2.1 P.1, P.2⟩

section
variable {w : World} {A : Around} {R : Result → Shared → Prop} {h : Heap} {g : Array GenState} {d : Drawn} {t : Nat} {os : OsState}
/-- entering a def with cells -/
theorem entC_ {name : Str} {params : Arguments} {body : List Stmt} {scope : Scope} {pm doc : Value} {f c : Addr} {args : List Value} (B : Base w h) (hroom : A.depth < recursionLimit)
    (ho : h.get? f = some { cls := .type "function", data := .func (Calls.docDef name params body scope pm (.ref c) doc) })
    (hcd : codeIn (KK w) (.ref c) name = true)
    (hbind : bindArgs (Calls.docDef name params body scope pm (.ref c) doc) ⟨args, []⟩ = pure ((params.args.map (·.arg)).zip args))
    (hloc : ((params.args.map (·.arg)).zip args |>.all fun x => decide (scope.names.lookup x.1 = some .local)) = true)
    {x : Str} (hcells : cellsFrom (h.objs.size + 1) scope.names [] = [(x, h.objs.size + 1)])
    (hcm : bindC (envOfC name scope h.objs.size f (.ref c)).kindOf ((params.args.map (·.arg)).zip args) (fun _ => none) x = none)
    (k : ∀ h₁ tk o, o.data = .cell none → Led h h.objs.size h₁ (bindL (envOfC name scope h.objs.size f (.ref c)).kindOf ((params.args.map (·.arg)).zip args) fun _ => none) [(h.objs.size + 1, o)] →
      wpAny (model PP w) (A.deeper (envOfC name scope h.objs.size f (.ref c))) (execs body (envOfC name scope h.objs.size f (.ref c)))
        (fun f s' => t ≤ s'.toks → R (.ok (.ret (match f with | .ret v => v | _ => .none))) s') NoE ⟨h₁, g, d, tk, os⟩)
    (hco : scope.isCoroutine = false := by rfl) (hgen : scope.isGenerator = false := by rfl) (hk : scope.kind = .function := by rfl) : codeAny (model PP w) A (.call (.ref f) ⟨args, []⟩) R ⟨h, g, d, t, os⟩ := by
  refine codeAny_mono (codeAny_toks_of (R := fun r s' => t ≤ s'.toks → R r s') (n := t) (Nat.le_refl _) ?_) (fun r s' q => q.2 q.1)
  refine call_cells_ret (s := ⟨h, g, d, t, os⟩) hroom ho rfl B.nolimit (code_of B hcd) hbind (fun x hx => .inl (locs hloc x hx)) (fun h₁ tk F X => ?_) hco hgen hk
  have hc := X.cell x (h.objs.size + 1) (by rw [hcells]; simp)
  rw [hcm] at hc
  obtain ⟨o, e, hd⟩ := hc
  have D0 : Led h h.objs.size h₁ _ [] := Led.start F
  have D : Led h h.objs.size h₁ (bindL (envOfC name scope h.objs.size f (.ref c)).kindOf ((params.args.map (·.arg)).zip args) fun _ => none) [(h.objs.size + 1, o)] := by
    refine ⟨F, fun p hp => ?_, by simp⟩
    rcases List.mem_singleton.mp hp with rfl
    exact ⟨e, Nat.succ_ne_self _, Heap.get?_none_of_le (Nat.le_succ _)⟩
  exact k h₁ tk o hd D
end
end Mine

end
section
open PySem PySem.W PyProof.Rows PySem.Calls
namespace Mine

theorem esc_app : ∀ (us : List Bool) (i : Nat) (r : List Nat), esc i false (unitsT us ++ r) = esc i false (unitsT us) ++ esc (i + (unitsT us).length) false r
  | [], i, r => by simp [unitsT, esc]
  | false :: us, i, r => by
    have := esc_app us (i + 1) r
    simp only [unitsT, List.cons_append, esc, List.length_cons]
    rw [if_neg (by decide), if_neg (by decide), this, List.cons_append]
    congr 3
    omega
  | true :: us, i, r => by
    have := esc_app us (i + 1 + 1) r
    simp only [unitsT, List.cons_append, esc, List.length_cons, if_true]
    rw [this, show i + 1 + 1 + (unitsT us).length = i + ((unitsT us).length + 1 + 1) by omega]
theorem esc_false (us : List Bool) : esc 0 false (unitsT (us ++ [false])) = esc 0 false (unitsT us) ++ [((unitsT us).length, [46])] := by
  rw [unitsT_app, esc_app]; simp [unitsT, esc]
theorem esc_true (us : List Bool) : esc 0 false (unitsT (us ++ [true])) = esc 0 false (unitsT us) ++ [((unitsT us).length + 1, [92, 46])] := by
  rw [unitsT_app, esc_app]; simp [unitsT, esc]
theorem esc_tail (us : List Bool) : esc 0 false (unitsT us ++ [92]) = esc 0 false (unitsT us) ++ [((unitsT us).length, [92])] := by
  rw [esc_app]; simp [esc]
theorem esc_ok : ∀ (us : List Bool) (i : Nat), ∀ it ∈ esc i false (unitsT us), it.2 = [46] ∨ it.2 = [92, 46]
  | [], _, it, h => by simp [unitsT, esc] at h
  | false :: us, i, it, h => by
    simp only [unitsT, esc] at h
    rw [if_neg (by decide)] at h
    rcases List.mem_cons.mp h with rfl | h
    · exact .inl rfl
    · exact esc_ok us _ it h
  | true :: us, i, it, h => by
    simp only [unitsT, esc, if_true] at h
    rcases List.mem_cons.mp h with rfl | h
    · exact .inr rfl
    · exact esc_ok us _ it h

/-- a line's end -/
def IsEnd (e : List Nat) : Prop := e = [10] ∨ e = [13] ∨ e = [13, 10]
def bodyM (l : List (Bool × List Nat)) : List Nat := l.flatMap fun p => if p.1 = true then p.2 ++ [46] else [46]
def bodyN (l : List (Bool × List Nat)) : List Nat := l.flatMap fun p => if p.1 = true then [13, 10, 46] else [46]
def bodyD (l : List (Bool × List Nat)) : List Nat := l.flatMap fun p => if p.1 = true then [13, 10, 46, 46] else [46]
theorem sub2_46 (r : List Nat) : sub2 (46 :: r) = 46 :: sub2 r := sub2_other (by decide) (by decide)
theorem sub2_end46 {e : List Nat} (h : IsEnd e) (r : List Nat) : sub2 (e ++ 46 :: r) = 13 :: 10 :: 46 :: sub2 r := by
  rcases h with rfl | rfl | rfl
  · show sub2 (10 :: 46 :: r) = _
    rw [sub2_10, sub2_46]
  · show sub2 (13 :: 46 :: r) = _
    rw [sub2_13 (fun c r' e => by cases e; decide), sub2_46]
  · show sub2 (13 :: 10 :: 46 :: r) = _
    rw [sub2_1310, sub2_46]
theorem sub2_end {e : List Nat} (h : IsEnd e) : sub2 e = [13, 10] := by
  have hn : sub2 [] = [] := by unfold sub2; rfl
  rcases h with rfl | rfl | rfl
  · rw [sub2_10, hn]
  · rw [sub2_13 (fun c r' e => by cases e), hn]
  · rw [sub2_1310, hn]
theorem sub2_body {el : List Nat} (hl : IsEnd el) : ∀ l : List (Bool × List Nat), (∀ p ∈ l, IsEnd p.2) → sub2 (bodyM l ++ el) = bodyN l ++ [13, 10]
  | [], _ => sub2_end hl
  | (false, e) :: l, h => by
    have ih := sub2_body hl l fun p hp => h p (.tail _ hp)
    show sub2 (46 :: (bodyM l ++ el)) = 46 :: (bodyN l ++ [13, 10])
    rw [sub2_46, ih]
  | (true, e) :: l, h => by
    have ih := sub2_body hl l fun p hp => h p (.tail _ hp)
    show sub2 (((e ++ [46]) ++ bodyM l) ++ el) = 13 :: 10 :: 46 :: (bodyN l ++ [13, 10])
    rw [List.append_assoc, List.append_assoc]
    show sub2 (e ++ 46 :: (bodyM l ++ el)) = _
    rw [sub2_end46 (h _ (.head _)), ih]
theorem sub1_body : ∀ l : List (Bool × List Nat), sub1 false (bodyN l ++ [13, 10]) = bodyD l ++ [13, 10]
  | [] => by decide
  | (false, e) :: l => by
    show sub1 false (46 :: (bodyN l ++ [13, 10])) = 46 :: (bodyD l ++ [13, 10])
    rw [← sub1_body l]; simp [sub1]
  | (true, e) :: l => by
    show sub1 false (13 :: 10 :: 46 :: (bodyN l ++ [13, 10])) = 13 :: 10 :: 46 :: 46 :: (bodyD l ++ [13, 10])
    rw [← sub1_body l]; simp [sub1]
/-- the quoting of a mail -/
theorem quote_mail {el : List Nat} (hl : IsEnd el) (l : List (Bool × List Nat)) (h : ∀ p ∈ l, IsEnd p.2) : sub1 true (sub2 (46 :: (bodyM l ++ el))) = 46 :: 46 :: (bodyD l ++ [13, 10]) := by
  rw [sub2_46, sub2_body hl l h, ← sub1_body l]; simp [sub1]
theorem quote_len {el : List Nat} (hl : IsEnd el) (l : List (Bool × List Nat)) (h : ∀ p ∈ l, IsEnd p.2) : sub2 (46 :: (bodyM l ++ el)) = 46 :: (bodyN l ++ [13, 10]) := by
  rw [sub2_46, sub2_body hl l h]
theorem bodyN_len : ∀ l : List (Bool × List Nat), (bodyN l).length ≤ 3 * l.length
  | [] => by simp [bodyN]
  | (b, e) :: l => by
    have := bodyN_len l
    show ((if b = true then [13, 10, 46] else [46]) ++ bodyN l).length ≤ _
    cases b <;> simp <;> omega
theorem bodyD_len : ∀ l : List (Bool × List Nat), (bodyD l).length ≤ 4 * l.length
  | [] => by simp [bodyD]
  | (b, e) :: l => by
    have := bodyD_len l
    show ((if b = true then [13, 10, 46, 46] else [46]) ++ bodyD l).length ≤ _
    cases b <;> simp <;> omega
theorem bodyM_len : ∀ l : List (Bool × List Nat), (∀ p ∈ l, IsEnd p.2) → (bodyM l).length ≤ 3 * l.length
  | [], _ => by simp [bodyM]
  | (b, e) :: l, h => by
    have := bodyM_len l fun p hp => h p (.tail _ hp)
    have he : e.length ≤ 2 := by rcases h _ (.head _) with q | q | q <;> dsimp only at q <;> rw [q] <;> decide
    show ((if b = true then e ++ [46] else [46]) ++ bodyM l).length ≤ _
    cases b <;> simp <;> omega

/-- the rows of the letters -/
def goR : Nat → List Bool → List Nat
  | c, [] => [c]
  | c, false :: r => goR (c + 1) r
  | c, true :: r => c :: goR 2 r
def rowsOf (bs : List Bool) : List Nat := goR 2 bs
theorem rows_body : ∀ (l : List (Bool × List Nat)) (c : Nat), rowsStr (goR c (l.map (·.1))) = List.replicate c 46 ++ (bodyD l ++ [13, 10])
  | [], c => by simp [goR, rowsStr, bodyD]
  | (false, e) :: l, c => by
    have ih := rows_body l (c + 1)
    show rowsStr (goR (c + 1) (l.map (·.1))) = List.replicate c 46 ++ (46 :: (bodyD l ++ [13, 10]))
    rw [ih, List.replicate_succ']; simp
  | (true, e) :: l, c => by
    have ih := rows_body l 2
    show rowsStr (c :: goR 2 (l.map (·.1))) = List.replicate c 46 ++ (13 :: 10 :: 46 :: 46 :: (bodyD l ++ [13, 10]))
    rw [rowsStr_cons, ih]; rfl
end Mine

end
section
open PySem PySem.W PyProof.Rows PySem.Calls
namespace Mine
local macro_rules | `(tactic| walk_at "lk") => `(tactic| first | assumption | exact if_pos rfl | (refine (if_neg (by decide)).trans ?_; walk_at "lk") | rfl)
theorem Led.hideW {h h₁ : Heap} {L a : Addr} {m : Str → Option Value} {o : Obj} {cs : List (Addr × Obj)} (D : Led h L h₁ m cs) (ho : h.get? a = some o) : Led (h.hide a) L h₁ m ((a, o) :: cs) := by
  refine ⟨⟨D.F.ns, fun b x e => D.F.keep b x (Heap.of_hide e), by rw [Heap.hide_size]; exact D.F.above⟩, fun p hp => ?_, ?_⟩
  · rcases List.mem_cons.mp hp with rfl | hp
    · exact ⟨D.F.keep _ _ ho, Nat.ne_of_lt (Nat.lt_of_lt_of_le (Heap.lt_size ho) D.F.above), Heap.hide_self h a⟩
    · have P := D.N p hp
      refine ⟨P.1, P.2.1, ?_⟩
      cases q : (h.hide a).get? p.1 with
      | none => rfl
      | some o' => have := Heap.of_hide q; rw [P.2.2] at this; cases this
  · rw [List.map_cons, List.nodup_cons]
    refine ⟨fun hm => ?_, D.nd⟩
    obtain ⟨p, hp, e⟩ := List.mem_map.mp hm
    have := (D.N p hp).2.2
    rw [e, ho] at this; cases this
/-- texts of a list -/
def StrsL (vs : List Value) (es : List (List Nat)) : Prop := vs.length = es.length ∧ ∀ (i : Nat) (e : List Nat), es[i]? = some e → ∃ u, vs[i]? = some (.str ⟨e.toArray⟩ u)
theorem g_iter : nsIn (KK w) mainGlobals "_iter_escaped_chars" = some (some (.ref 38)) := by kernel_rfl
theorem g_numbers : nsIn (KK w) mainGlobals "_law_numbers" = some (some (.ref 95)) := by kernel_rfl
theorem g_quote : nsIn (KK w) mainGlobals "quotedata" = some (some (.ref 90)) := by kernel_rfl
theorem g_rows : nsIn (KK w) mainGlobals "_law_rows" = some (some (.ref 102)) := by kernel_rfl
theorem k_iter : keepIn (KK w) (.ref 38) = true := by kernel_rfl
theorem k_numbers : keepIn (KK w) (.ref 95) = true := by kernel_rfl
theorem k_quote : keepIn (KK w) (.ref 90) = true := by kernel_rfl
theorem k_rows : keepIn (KK w) (.ref 102) = true := by kernel_rfl
theorem n_list : nsIn (KK w) mainGlobals "list" = some none := by kernel_rfl
theorem b_list : bootBuiltins "list" = some (.type "list") := by boot_fast
theorem s_bdot : (Str.ofString "\\.") = ⟨#[92, 46]⟩ := by decide +kernel
theorem s_crdd : (Str.ofString "\r\n..") = ⟨#[13, 10, 46, 46]⟩ := by decide +kernel
def bitN (b : Bool) : Int := if b then 1 else 0
theorem str_app (a b : List Nat) : (⟨a.toArray⟩ : Str) ++ ⟨b.toArray⟩ = ⟨(a ++ b).toArray⟩ := by
  show (⟨a.toArray ++ b.toArray⟩ : Str) = _
  simp
theorem permA {α : Type} (a b c d e f : α) (r : List α) : (d :: b :: a :: e :: f :: c :: r).Perm (a :: b :: c :: d :: e :: f :: r) := by
  have h1 : [d, b, a, e, f, c].Perm [a, b, c, d, e, f] :=
    (((List.Perm.swap a b [e, f, c]).trans (((List.perm_append_comm (l₁ := [e, f]) (l₂ := [c])).cons b).cons a)).cons d).trans (List.perm_middle (l₁ := [a, b, c])).symm
  exact h1.append_right r
theorem str_len (a : List Nat) : (⟨a.toArray⟩ : Str).length = a.length := by simp [Str.length]
theorem unitsT_le : ∀ us : List Bool, (unitsT us).length ≤ 2 * us.length
  | [] => by simp [unitsT]
  | false :: us => by have := unitsT_le us; simp [unitsT]; omega
  | true :: us => by have := unitsT_le us; simp [unitsT]; omega
theorem esc_len : ∀ (us : List Bool) (i : Nat), (esc i false (unitsT us)).length = us.length
  | [], _ => by simp [unitsT, esc]
  | false :: us, i => by simp [unitsT, esc, esc_len us]
  | true :: us, i => by simp [unitsT, esc, esc_len us]
theorem gclo_ {w : World} {A : Around} {E : Value → Shared → Prop} {h : Heap} {g : Array GenState} {d : Drawn} {t : Nat} {os : OsState} {env : Env} {x : Str} {pos : Pos} {c : Addr} {o : Obj} {v : Value} {Q : Value → Shared → Prop} (hc : env.cells.lookup x = some c) (hm : h.get? c = some o) (ho : o.data = .cell (some v)) (k : Q v ⟨h, g, d, t, os⟩)
    (hk : env.scope.kind = .function := by rfl) (hl : env.kindOf x = some .cell := by rfl) (hd : (x == ("__debug__" : Str)) = false := by decide) :
    wpAny (model PP w) A (eval (.Name x pos) env) Q E ⟨h, g, d, t, os⟩ := wpAny_Name (s := ⟨h, g, d, t, os⟩) (wpAny_loadName_cell hk hl hc ⟨o, hm, ho⟩ k) hd
theorem Prs.append {h : Heap} : ∀ {vs : List Value} {its : List (Nat × List Nat)} {vs' : List Value} {its' : List (Nat × List Nat)}, Prs h vs its → Prs h vs' its' → Prs h (vs ++ vs') (its ++ its')
  | _, _, _, _, .nil, y => y
  | _, _, _, _, .cons e r, y => .cons e (r.append y)
theorem s_empty : (Str.ofString "") = ⟨#[]⟩ := by decide +kernel
def gN (g : Array GenState) : Nat → Array GenState
  | 0 => g
  | n + 1 => (gN g n).push .finished
theorem belowR {A : Around} {hb h₀ h' : Heap} {env1 envR : Env} {L F1 : Addr} {m : Str → Option Value} {o1 : Obj} {cs : List (Addr × Obj)} (hfr : A.frames = some [env1]) (hf1 : env1.frame = some F1) (hk1 : env1.scope.kind ≠ .module) (hn1 : ∀ vs, o1.data ≠ .fields vs) (hbF : hb.get? F1 = none)
    (hkR : envR.scope.kind ≠ .module) (hfR : envR.frame = some L) (D : Led h₀ L h' m cs) (hm : (F1, o1) ∈ cs) (kb : ∀ b o, hb.get? b = some o → h'.get? b = some o) (hbL : hb.get? L = none) : Below (A.deeper envR) hb [envR, env1] h' := by
  obtain ⟨oL, es, ep, hL, hd, r⟩ := D.F.ns
  exact ⟨Around.frames_deeper hfr, kb, ⟨hkR, ⟨L, oL, hfR, hbL, hL, fun vs q => by rw [hd] at q; cases q⟩, ⟨hk1, ⟨F1, o1, hf1, hbF, D.get hm, hn1⟩, trivial⟩⟩⟩
section
variable {w : World} {A : Around} {R : Result → Shared → Prop} {h hb : Heap} {g : Array GenState} {d : Drawn} {t : Nat} {os : OsState} {env1 : Env}
set_option maxHeartbeats 2000000 in
set_option maxRecDepth 20000 in
theorem read_C {la ea F1 : Addr} {lv ev : List Value} {nl ne : Nat} {bs : List Bool} {es : List (List Nat)} {o1 : Obj} (B : Base w hb) (kb : ∀ b o, hb.get? b = some o → h.get? b = some o) (hs : hb.objs.size ≤ h.objs.size)
    (hroom : A.depth + 2 < recursionLimit) (hA : A.handled = none) (hu : A.units + 67 < cLine) (hfr : A.frames = some [env1]) (hf1 : env1.frame = some F1) (hk1 : env1.scope.kind ≠ .module) (ho1 : h.get? F1 = some o1) (hn1 : ∀ vs, o1.data ≠ .fields vs) (hbF : hb.get? F1 = none)
    (hl : h.get? la = some (lstN lv nl)) (hla : la ≠ F1) (hlI : IntsAre lv (bs.map bitN)) (he : h.get? ea = some (lstN ev ne)) (hea : ea ≠ F1) (heS : StrsL ev es) (hlen : es.length = bs.length) (hpos : bs ≠ []) (hle : bs.length ≤ 20) (hE : ∀ e ∈ es, IsEnd e)
    (k : ∀ h' tk r vs n, t ≤ tk → (∀ b o, b ≠ F1 → h.get? b = some o → h'.get? b = some o) → (∃ sl, h'.get? F1 = some { o1 with slots := sl }) → h'.get? r = some (lstN vs n) → IntsAre vs ((rowsOf bs).map Int.ofNat) → h.get? r = none →
      R (.ok (.ret (.ref r))) ⟨h', (g.push .finished).push .finished, d, tk, os⟩) :
    codeAny (model PP w) A (.call (.ref 107) ⟨[.ref la, .ref ea], []⟩) R ⟨h, g, d, t, os⟩ := by
  have B' := B.keeps kb
  have ho := B'.X 107 _ rfl
  refine entC_ (x := "text") B' (by omega) ho (by kernel_rfl) rfl rfl rfl rfl fun h₁ tk oc hoc D => ?_
  clear ho
  replace D := D.hideW ho1
  have Bh : Base w (h.hide F1) := B.keeps fun b o e => hide_get (fun z => by rw [z, hbF] at e; cases e) (kb b o e)
  have kbh : ∀ b o, hb.get? b = some o → (h.hide F1).get? b = some o := fun b o e => hide_get (fun z => by rw [z, hbF] at e; cases e) (kb b o e)
  have hbL : hb.get? h.objs.size = none := Heap.get?_none_of_le hs
  rw [s_dot, s_dots, s_bdot, s_crdd]
  refine wpAny_execs_cons (asg_ (cs_ fun u1 tk1 hu1 hu1' => ?_))
  refine gcs_ (D.perm (List.Perm.swap ..)) rfl hoc fun h2 oc hoc D => ?_
  refine wpAny_execs_cons (asg_ (List_ (spliced_more (Tuple_ (spliced_more (ci_ fun u3 tk3 hT3 => spliced_more (cs_ fun u4 tk4 hu4 hu4' => spliced_none ?_)))))))
  refine nt_ D (Nat.le_of_ble_eq_true rfl) fun h5 tp K5 _ D => ?_
  refine spliced_none (nl_ D (Nat.le_of_ble_eq_true rfl) fun h6 ua K6 _ D => ?_)
  refine gsn_ D fun h7 tk7 hT7 D => ?_
  refine wpAny_execs_cons (asg_ (List_ (spliced_more (ci_ fun u8 tk8 hT8 => spliced_none (nl_ D (Nat.le_of_ble_eq_true rfl) fun h9 na K9 _ D => gsn_ D fun h10 tk10 hT10 D => ?_)))))
  refine wpAny_execs_cons (asg_ (cs_ fun u11 tk11 hu11 hu11' => gsn_ D fun h12 tk12 hT12 D => ?_))
  refine wpAny_execs_cons (asg_ (cs_ fun u13 tk13 hu13 hu13' => gsn_ D fun h14 tk14 hT14 D => ?_))
  refine wpAny_execs_cons (wpAny_For ?_)
  refine Call_ (gbn_ D Bh n_range b_range (by decide) ?_)
  have hlvl : lv.length = bs.length := by have := hlI.length; simpa using this
  have hll : ∀ {h'' m cs}, Led (h.hide F1) h.objs.size h'' m cs → h''.get? la = some (lstN lv nl) := fun D => D.F.keep _ _ (hide_get hla hl)
  have hle2 : ∀ {h'' m cs}, Led (h.hide F1) h.objs.size h'' m cs → h''.get? ea = some (lstN ev ne) := fun D => D.F.keep _ _ (hide_get hea he)
  refine Pv.callWith_type1 (spliced_more (Call_ (gbn_ D Bh n_len b_len (by decide) (callWith_method1 (first := []) (spliced_more (gln_ D (v := .ref la) (by walk_at "lk") (spliced_none (len_list_ (hll D) (by omega) fun u15 tk15 hT15 => spliced_none ?_))))))))
  rw [hlvl]
  generalize hlz : bs.zip es = l
  have hlm : l.map (·.1) = bs := by rw [← hlz]; exact List.map_fst_zip (by omega)
  have hlE : ∀ p ∈ l, IsEnd p.2 := fun p hp => hE _ (by rw [← hlz] at hp; exact (List.of_mem_zip hp).2)
  have hll2 : l.length = bs.length := by rw [← hlz, List.length_zip]; omega
  refine gfr_ hA (fun i m cs => ∃ ut un nt nn oc u u2 u3 tups, cs = (ua, lstN ut un) :: (na, lstN nt nn) :: (F1, o1) :: (h.objs.size + 1, oc) :: tups ∧ oc.data = .cell (some (.str ⟨(unitsT (false :: bs.take i)).toArray⟩ u)) ∧
    PF (esc 0 false (unitsT (false :: bs.take i))) ut tups ∧ IntsAre nt (unitsN (false :: bs.take i)) ∧ m "units" = some (.ref ua) ∧ m "numbers" = some (.ref na) ∧ m "letters" = some (.ref la) ∧ m "ends" = some (.ref ea) ∧
    m "mail" = some (.str ⟨(46 :: bodyM (l.take i)).toArray⟩ u2) ∧ m "due" = some (.str ⟨(46 :: 46 :: bodyD (l.take i)).toArray⟩ u3)) (D.perm ((List.Perm.swap _ _ _).trans (((List.reverse_perm [_, _, _]).cons _).cons _))) (by omega) ?_ ?_ ?_
  · refine ⟨_, _, _, _, _, u1, _, _, _, rfl, hoc, ⟨rfl, fun k it e => ?_⟩, .cons 46 u8 .nil, by walk_at "lk", by walk_at "lk", by walk_at "lk", by walk_at "lk", by walk_at "lk", by walk_at "lk"⟩
    have e' : ([(0, [46])] : List (Nat × List Nat))[k]? = some it := e
    have hk0 : k = 0 := by
      cases k with
      | zero => rfl
      | succ n => simp at e'
    subst hk0
    simp at e'
    subst e'
    exact ⟨tp, u3, u4, rfl, .head _⟩
  · rintro I o₁ i u m₁ cs₁ h16 tk16 hT16 hi ⟨ut, un, nt, nn, oc, uc, u2, u3, tups, rfl, hoc, hP, hN, e1, e2, e3, e4, e5, e6⟩ D
    obtain ⟨b, hb1⟩ : ∃ b, bs[i]? = some b := ⟨bs[i], List.getElem?_eq_getElem hi⟩
    have htk : bs.take (i + 1) = bs.take i ++ [b] := by rw [List.take_add_one, hb1]; rfl
    have hus : false :: bs.take (i + 1) = (false :: bs.take i) ++ [b] := by rw [htk]; rfl
    obtain ⟨ul, hul⟩ := ints_get (i := i) (n := bitN b) hlI (by rw [List.getElem?_map, hb1]; rfl)
    obtain ⟨p, hp1⟩ : ∃ p, l[i]? = some p := ⟨l[i], List.getElem?_eq_getElem (by omega)⟩
    have hpb : p.1 = b := by
      have : (l.map (·.1))[i]? = some p.1 := by rw [List.getElem?_map, hp1]; rfl
      rw [hlm, hb1] at this; exact (Option.some.inj this).symm
    have hltk : l.take (i + 1) = l.take i ++ [p] := by rw [List.take_add_one, hp1]; rfl
    have hbM : bodyM (l.take (i + 1)) = bodyM (l.take i) ++ bodyM [p] := by rw [hltk]; simp [bodyM]
    have hbD : bodyD (l.take (i + 1)) = bodyD (l.take i) ++ bodyD [p] := by rw [hltk]; simp [bodyD]
    have szT := unitsT_le (false :: bs.take i)
    have szM := bodyM_len (l.take i) fun q hq => hlE q (List.mem_of_mem_take hq)
    have szD := bodyD_len (l.take i)
    have l1 : (bs.take i).length ≤ 20 := by rw [List.length_take]; omega
    have l2 : (l.take i).length ≤ 20 := by rw [List.length_take]; omega
    have hsl : (1000 : Nat) ≤ sizeLine := Nat.le_of_ble_eq_true rfl
    have szU : ut.length ≤ 1000 := by
      rw [hP.1, esc_len]; simp only [List.length_cons]; omega
    have szN : nt.length ≤ 1000 := by
      have := hN.length
      simp [unitsN] at this
      omega
    simp only [List.length_cons] at szT
    refine wpAny_execs_cons (wpAny_If (wpAny_isTrue_Compare1 (Subscript_ (gln_ D (v := .ref la) (by walk_at "lk") (gln_ D (v := .int (i : Nat) u) (by walk_at "lk") (item_ (hll D) (by omega) (by omega) (by simpa using hul) (ci_ fun u17 tk17 hT17 => eq_int (wpAny_truthy_bool ?_))))))))
    cases b with
    | false =>
      rw [show (bitN false == 0) = true from rfl, if_pos rfl]
      have hT' : unitsT (false :: bs.take (i + 1)) = unitsT (false :: bs.take i) ++ [46] := by rw [hus, unitsT_app]; rfl
      refine wpAny_execs_cons (asg_ (wpAny_BinOp (gcl_ D rfl (.tail _ (.tail _ (.tail _ (.tail _ (.head _))))) hoc (cs_ fun u18 tk18 h18 h18' => cat_ (by rw [str_len]; show _ + 1 ≤ _; omega) fun u19 tk19 h19 => ?_))))
      rw [show (⟨(unitsT (false :: bs.take i)).toArray⟩ : Str) ++ ⟨#[46]⟩ = ⟨(unitsT (false :: bs.take (i + 1))).toArray⟩ from by rw [hT']; exact str_app _ [46]]
      refine gcs_ (D.perm (List.perm_middle (l₁ := [_, _, _, _])).symm) rfl hoc fun h20 oc hoc D => ?_
      replace D := D.perm (List.perm_middle (l₁ := [_, _, _, _]))
      refine wpAny_execs_cons (gapx_ (vs0 := ut) (n0 := un) D (by walk_at "lk") (D.get (.tail _ (.head _))) ?_)
      refine Tuple_ (spliced_more (wpAny_BinOp (Call_ (gbn_ D Bh n_len b_len (by decide) (callWith_method1 (first := []) (spliced_more (gcl_ D rfl (.tail _ (.tail _ (.tail _ (.tail _ (.head _))))) hoc (spliced_none (len_str_ (by rw [str_len, hT']; simp; omega) fun u21 tk21 h21 => ?_)))))))))
      refine ci_ fun u22 tk22 h22 => sub_ fun u23 tk23 h23 => spliced_more (cs_ fun u24 tk24 h24 h24' => spliced_none ?_)
      rw [show ((⟨(unitsT (false :: bs.take (i + 1))).toArray⟩ : Str).length : Int) - 1 = ((unitsT (false :: bs.take i)).length : Nat) from by rw [str_len, hT']; simp]
      refine nt_ D (Nat.le_of_ble_eq_true rfl) fun h25 tp2 K25 _ D => ?_
      refine ⟨h25, tk24, _, _, ut, un, rfl, D.perm (List.perm_middle (l₁ := [_, _])).symm, Nat.le_trans szU hsl, fun h26 D => ?_⟩
      refine wpAny_execs_cons (gapx_ (vs0 := nt) (n0 := nn) D (by walk_at "lk") (D.get (.tail _ (.tail _ (.tail _ (.head _))))) ?_)
      refine ci_ fun u27 tk27 h27 => ⟨h26, tk27, _, _, nt, nn, rfl, D.perm (List.perm_middle (l₁ := [_, _, _])).symm, Nat.le_trans szN hsl, fun h28 D => ?_⟩
      refine wpAny_execs_cons (asg_ (wpAny_BinOp (gln_ D (v := .str ⟨(46 :: bodyM (l.take i)).toArray⟩ u2) (by walk_at "lk") (cs_ fun u29 tk29 h29 h29' => cat_ (by rw [str_len]; show _ + 1 ≤ _; simp; omega) fun u30 tk30 h30 => ?_))))
      rw [show (⟨(46 :: bodyM (l.take i)).toArray⟩ : Str) ++ ⟨#[46]⟩ = ⟨(46 :: bodyM (l.take (i + 1))).toArray⟩ from by rw [hbM, show bodyM [p] = [46] from by simp [bodyM, hpb]]; exact str_app _ [46]]
      refine gsn_ D fun h31 tk31 h31' D => ?_
      refine wpAny_execs_cons (asg_ (wpAny_BinOp (gln_ D (v := .str ⟨(46 :: 46 :: bodyD (l.take i)).toArray⟩ u3) (by walk_at "lk") (cs_ fun u32 tk32 h32 h32' => cat_ (by rw [str_len]; show _ + 1 ≤ _; simp; omega) fun u33 tk33 h33 => ?_))))
      rw [show (⟨(46 :: 46 :: bodyD (l.take i)).toArray⟩ : Str) ++ ⟨#[46]⟩ = ⟨(46 :: 46 :: bodyD (l.take (i + 1))).toArray⟩ from by rw [hbD, show bodyD [p] = [46] from by simp [bodyD, hpb]]; exact str_app _ [46]]
      refine gsn_ D fun h34 tk34 h34' D => xn_ (xn_ ?_)
      refine ⟨h34, tk34, _, _, rfl, D.perm (permA _ _ _ _ _ _ _), _, _, _, _, oc, u19, u30, u33, _, rfl, hoc, ?_, ?_, by walk_at "lk", by walk_at "lk", by walk_at "lk", by walk_at "lk", by walk_at "lk", by walk_at "lk"⟩
      · rw [hus, esc_false]; exact hP.snoc
      · rw [hus, show unitsN ((false :: bs.take i) ++ [false]) = unitsN (false :: bs.take i) ++ [46] from by simp [unitsN]]
        exact hN.append (.cons 46 u27 .nil)
    | true =>
      rw [show (bitN true == 0) = false from rfl, if_neg (by decide)]
      have hT' : unitsT (false :: bs.take (i + 1)) = unitsT (false :: bs.take i) ++ [92, 46] := by rw [hus, unitsT_app]; rfl
      have hesi : es[i]? = some p.2 := by
        rw [← hlz, List.getElem?_zip_eq_some] at hp1
        exact hp1.2
      obtain ⟨ue, hue⟩ := heS.2 i p.2 hesi
      have hE2 := hlE p (List.mem_of_getElem? hp1)
      have hm2 : (⟨(46 :: bodyM (l.take i)).toArray⟩ : Str) ++ ⟨p.2.toArray⟩ ++ ⟨#[46]⟩ = ⟨(46 :: bodyM (l.take (i + 1))).toArray⟩ := by
        rw [show (⟨#[46]⟩ : Str) = ⟨[46].toArray⟩ from rfl, str_app, str_app, hbM, show bodyM [p] = p.2 ++ [46] from by simp [bodyM, hpb]]
        simp
      have szE : p.2.length ≤ 2 := by rcases hE2 with q | q | q <;> rw [q] <;> decide
      refine wpAny_execs_cons (asg_ (wpAny_BinOp (gcl_ D rfl (.tail _ (.tail _ (.tail _ (.tail _ (.head _))))) hoc (cs_ fun u18 tk18 h18 h18' => cat_ (by rw [str_len]; show _ + 2 ≤ _; omega) fun u19 tk19 h19 => ?_))))
      rw [show (⟨(unitsT (false :: bs.take i)).toArray⟩ : Str) ++ ⟨#[92, 46]⟩ = ⟨(unitsT (false :: bs.take (i + 1))).toArray⟩ from by rw [hT']; exact str_app _ [92, 46]]
      refine gcs_ (D.perm (List.perm_middle (l₁ := [_, _, _, _])).symm) rfl hoc fun h20 oc hoc D => ?_
      replace D := D.perm (List.perm_middle (l₁ := [_, _, _, _]))
      refine wpAny_execs_cons (gapx_ (vs0 := ut) (n0 := un) D (by walk_at "lk") (D.get (.tail _ (.head _))) ?_)
      refine Tuple_ (spliced_more (wpAny_BinOp (Call_ (gbn_ D Bh n_len b_len (by decide) (callWith_method1 (first := []) (spliced_more (gcl_ D rfl (.tail _ (.tail _ (.tail _ (.tail _ (.head _))))) hoc (spliced_none (len_str_ (by rw [str_len, hT']; simp; omega) fun u21 tk21 h21 => ?_)))))))))
      refine ci_ fun u22 tk22 h22 => sub_ fun u23 tk23 h23 => spliced_more (cs_ fun u24 tk24 h24 h24' => spliced_none ?_)
      rw [show ((⟨(unitsT (false :: bs.take (i + 1))).toArray⟩ : Str).length : Int) - 1 = ((unitsT (false :: bs.take i)).length + 1 : Nat) from by rw [str_len, hT']; simp; omega]
      refine nt_ D (Nat.le_of_ble_eq_true rfl) fun h25 tp2 K25 _ D => ?_
      refine ⟨h25, tk24, _, _, ut, un, rfl, D.perm (List.perm_middle (l₁ := [_, _])).symm, Nat.le_trans szU hsl, fun h26 D => ?_⟩
      refine wpAny_execs_cons (gapx_ (vs0 := nt) (n0 := nn) D (by walk_at "lk") (D.get (.tail _ (.tail _ (.tail _ (.head _))))) ?_)
      refine ci_ fun u27 tk27 h27 => ⟨h26, tk27, _, _, nt, nn, rfl, D.perm (List.perm_middle (l₁ := [_, _, _])).symm, Nat.le_trans szN hsl, fun h28 D => ?_⟩
      refine wpAny_execs_cons (asg_ (wpAny_BinOp (wpAny_BinOp (gln_ D (v := .str ⟨(46 :: bodyM (l.take i)).toArray⟩ u2) (by walk_at "lk") (Subscript_ (gln_ D (v := .ref ea) (by walk_at "lk") (gln_ D (v := .int (i : Nat) u) (by walk_at "lk") (item_ (hle2 D) (by omega) (by omega) (by simpa using hue) (cat_ (by rw [str_len, str_len]; simp; omega) fun u29 tk29 h29 => cs_ fun u30 tk30 h30 h30' => cat_ ?_ fun u31 tk31 h31 => ?_)))))))))
      · rw [str_app, str_len]; show _ + 1 ≤ _; simp; omega
      rw [show (⟨(46 :: bodyM (l.take i)).toArray⟩ : Str) ++ ⟨p.2.toArray⟩ ++ ⟨#[46]⟩ = ⟨(46 :: bodyM (l.take (i + 1))).toArray⟩ from hm2]
      refine gsn_ D fun h32 tk32 h32' D => ?_
      refine wpAny_execs_cons (asg_ (wpAny_BinOp (gln_ D (v := .str ⟨(46 :: 46 :: bodyD (l.take i)).toArray⟩ u3) (by walk_at "lk") (cs_ fun u33 tk33 h33 h33' => cat_ (by rw [str_len]; show _ + 4 ≤ _; simp; omega) fun u34 tk34 h34 => ?_))))
      rw [show (⟨(46 :: 46 :: bodyD (l.take i)).toArray⟩ : Str) ++ ⟨#[13, 10, 46, 46]⟩ = ⟨(46 :: 46 :: bodyD (l.take (i + 1))).toArray⟩ from by rw [hbD, show bodyD [p] = [13, 10, 46, 46] from by simp [bodyD, hpb]]; exact str_app _ [13, 10, 46, 46]]
      refine gsn_ D fun h35 tk35 h35' D => xn_ (xn_ ?_)
      refine ⟨h35, tk35, _, _, rfl, D.perm (permA _ _ _ _ _ _ _), _, _, _, _, oc, u19, u31, u34, _, rfl, hoc, ?_, ?_, by walk_at "lk", by walk_at "lk", by walk_at "lk", by walk_at "lk", by walk_at "lk", by walk_at "lk"⟩
      · rw [hus, esc_true]; exact hP.snoc
      · rw [hus, show unitsN ((false :: bs.take i) ++ [true]) = unitsN (false :: bs.take i) ++ [1838] from by simp [unitsN]]
        exact hN.append (.cons 1838 u27 .nil)
  · rintro h16 tk16 m₁ cs₁ hT16 ⟨ut, un, nt, nn, oc, uc, u2, u3, tups, rfl, hoc, hP, hN, e1, e2, e3, e4, e5, e6⟩ D
    rw [List.take_length] at hoc hP hN
    rw [← hll2, List.take_length] at e5 e6
    dsimp only
    have szT := unitsT_le (false :: bs)
    simp only [List.length_cons] at szT
    refine wpAny_execs_cons (wpAny_For (List_ (spliced_more (cs_ fun u17 tk17 h17 h17' => spliced_more (cs_ fun u18 tk18 h18 h18' => spliced_none (nl_ D (Nat.le_of_ble_eq_true rfl) fun h19 lt K19 _ D => ?_))))))
    refine wpAny_pyIter_list (s := ⟨h19, g, d, tk18, os⟩) (lst_is (n := 0) D.get0) ?_
    have hlt0 := D.get0
    have D := D.push { cls := .type "list_iterator", data := .fields #[.ref lt, .int 0 0] }
    refine loopG (l := lt) (items := #[.str (Str.ofString "") u17, .str (Str.ofString "\\") u18]) hA (Nat.ne_of_lt (Heap.lt_size hlt0)) rfl rfl (fun i g' m cs => ∃ sl tl, cs = (lt, lst [.str (Str.ofString "") u17, .str (Str.ofString "\\") u18]) :: (ua, lstN ut un) :: (na, lstN nt nn) :: (F1, { o1 with slots := sl }) :: (h.objs.size + 1, oc) :: (tups ++ tl) ∧ g' = gN g i ∧
      m "units" = some (.ref ua) ∧ m "numbers" = some (.ref na) ∧ m "ends" = some (.ref ea) ∧ m "mail" = some (.str ⟨(46 :: bodyM l).toArray⟩ u2) ∧ m "due" = some (.str ⟨(46 :: 46 :: bodyD l).toArray⟩ u3))
      ⟨_, fun i g m cs q => by obtain ⟨sl, tl, rfl, _⟩ := q; exact .head _⟩ ?_ ?_ D ⟨⟨_, D.get0, rfl, rfl⟩, lst_is (n := 0) (D.get (.tail _ (.head _)))⟩ ⟨o1.slots, [], by rw [List.append_nil], rfl, e1, e2, e4, e5, e6⟩ ?_ ?_
    · exact Ne.symm (D.N _ (.tail _ (.head _))).2.1
    · exact Ne.symm (D.N _ (.head _)).2.1
    · rintro i v g₁ m₁ cs₁ o₁ h20 tk20 hT20 hv ⟨sl, tl, rfl, rfl, f1, f2, f4, f5, f6⟩ D
      obtain ⟨b, uv, rfl⟩ : ∃ (b : Bool) (uv : Tok), v = .str ⟨(if b = true then [92] else []).toArray⟩ uv := by
        match i, hv with
        | 0, hv => exact ⟨false, u17, by show v = .str ⟨#[]⟩ u17; rw [← s_empty]; simpa using hv.symm⟩
        | 1, hv => exact ⟨true, u18, by show v = .str ⟨#[92]⟩ u18; rw [← s_back]; simpa using hv.symm⟩
        | n + 2, hv => simp at hv
      have hxl : (unitsT (false :: bs) ++ (if b = true then [92] else [])).length ≤ 100 := by rw [List.length_append]; cases b <;> simp <;> omega
      have hesc : esc 0 false (unitsT (false :: bs) ++ (if b = true then [92] else [])) = esc 0 false (unitsT (false :: bs)) ++ (if b = true then [((unitsT (false :: bs)).length, [92])] else []) := by
        cases b
        · simp
        · simpa using esc_tail (false :: bs)
      refine wpAny_execs_cons (wpAny_If (wpAny_isTrue_Compare1 ?_))
      refine Call_ (gbn_ D Bh n_list b_list (by decide) ?_)
      refine Pv.callWith_type1 (spliced_more ?_)
      refine Call_ (ggl_ D Bh g_iter ?_)
      refine cw_ Bh k_iter (spliced_more ?_)
      refine wpAny_BinOp (gcl_ D rfl (.tail _ (.tail _ (.tail _ (.tail _ (.tail _ (.head _)))))) hoc ?_)
      refine gln_ D (v := .str ⟨(if b = true then [92] else []).toArray⟩ uv) (by walk_at "lk") ?_
      refine cat_ (by rw [str_len, str_len]; cases b <;> simp <;> omega) fun u21 tk21 h21 => ?_
      refine spliced_none ⟨D.base Bh, ca_ ?_⟩
      rw [str_app]
      refine gen_C (D.base Bh) (by show A.depth + 1 < _; omega) (by show (List.toArray _).size ≤ 1000; rw [List.size_toArray]; omega) fun I2 s₂ G => ?_
      refine spliced_none (glist_C (D.base Bh) hA (by show A.depth + 1 < _; omega) ?_ G fun h22 tk22 C m22 own vs22 c22 S22 hT22 D22 hP22 => ?_)
      · show (esc 0 false (List.toArray _).toList).length ≤ 1000
        rw [show (List.toArray (unitsT (false :: bs) ++ (if b = true then [92] else []))).toList = unitsT (false :: bs) ++ (if b = true then [92] else []) from rfl, hesc, List.length_append, esc_len]
        cases b <;> simp <;> omega
      have hP22' : PF (esc 0 false (unitsT (false :: bs)) ++ (if b = true then [((unitsT (false :: bs)).length, [92])] else [])) vs22 own := by rw [← hesc]; exact hP22
      have D := D.out D22 fun _ _ _ e => e
      refine wpAny_BinOp (gln_ D (v := .ref ua) (by walk_at "lk") ?_)
      refine lc_ (cl := [("text", h.objs.size + 1)]) rfl rfl (by decide) (gln_ D (v := .str ⟨(if b = true then [92] else []).toArray⟩ uv) (by walk_at "lk") ?_)
      have hcT : h22.get? (h.objs.size + 1) = some oc := D.get (List.mem_append_right _ (.tail _ (.tail _ (.tail _ (.tail _ (.tail _ (.head _)))))))
      refine bls_ hA (by decide) rfl rfl (fun i vs cs => vs.length = i ∧ i ≤ 1 ∧ PF ((if b = true then [((unitsT (false :: bs)).length, [92])] else []).take i) vs cs) ⟨rfl, Nat.zero_le _, rfl, fun k it e => by simp at e⟩ ?_ ?_ ?_
      · rintro i vs cs ⟨q, q2, _⟩
        have : (1 : Nat) ≤ sizeLine := Nat.le_of_ble_eq_true rfl
        omega
      · rintro C a I i c u m₁ vs k1 cs₁ o₁ hh tk1 hT1 hU1 hc ⟨q1, q2, q3⟩ Db
        obtain ⟨rfl, rfl, rfl⟩ : b = true ∧ i = 0 ∧ c = 92 := by
          have hc' : (if b = true then [92] else [])[i]? = some c := by simpa using hc
          cases b with
          | false => simp at hc'
          | true =>
            cases i with
            | zero => simp at hc'; exact ⟨rfl, rfl, hc'.symm⟩
            | succ n => simp at hc'
        have hv0 : vs = [] := List.length_eq_zero_iff.mp q1
        subst hv0
        refine wpAny_tests_nil ?_
        rw [if_pos rfl]
        refine Tuple_ (spliced_more (Call_ (gbn_ Db (D.base Bh) n_len b_len (by decide) ?_)))
        refine callWith_method1 (first := []) (spliced_more (gclo_ rfl (Db.F.keep _ _ hcT) hoc ?_))
        refine spliced_none (len_str_ (by rw [str_len]; simp only [unitsT, List.length_cons] at szT ⊢; omega) fun u24 tk24 h24 => ?_)
        refine spliced_more (gln_ Db (v := .str ⟨#[92]⟩ u) (by walk_at "lk") (spliced_none ?_))
        rw [str_len]
        refine nt_ Db (Nat.le_of_ble_eq_true rfl) fun h25 tp K _ Db => ?_
        refine ⟨h25, tk24, _, _, rfl, Db.perm ((List.perm_middle (l₁ := [_, _]) (a := _)).trans (List.Perm.refl _)), rfl, Nat.le_refl _, ?_⟩
        exact PF.snoc (its := []) (prod := []) (own := cs₁) ⟨rfl, fun k it e => by simp at e⟩
      · rintro C a hh tk1 vs k1 cs₁ m₁ hT1 ⟨q1, q2, q3⟩ Db
        refine pv_ D Db fun h23 D => ?_
        have q4 : PF (if b = true then [((unitsT (false :: bs)).length, [92])] else []) vs cs₁ := by
          have e : (if b = true then [((unitsT (false :: bs)).length, [92])] else []).take (List.toArray (if b = true then [92] else [])).size = (if b = true then [((unitsT (false :: bs)).length, [92])] else []) := by cases b <;> rfl
          rw [← e]; exact q3
        have szU : ut.length ≤ 1000 := by
          rw [hP.1, esc_len]; simp only [List.length_cons]; omega
        have szV : vs.length ≤ 1 := by rw [q1]; exact q2
        have hU : h23.get? ua = some (lstN ut un) := D.get (List.mem_append_right _ (List.mem_append_right _ (.tail _ (.tail _ (.head _)))))
        have hV : h23.get? a = some (lstN vs k1) := D.get (.head _)
        refine addl_ D hU hV (by omega) fun h24 r D => ?_
        have hp1 : Prs h24 vs22 (esc 0 false (unitsT (false :: bs)) ++ (if b = true then [((unitsT (false :: bs)).length, [92])] else [])) := hP22'.prs D fun p hp => .tail _ (List.mem_append_right _ (List.mem_append_left _ (.tail _ hp)))
        have hp2 : Prs h24 (ut ++ vs) (esc 0 false (unitsT (false :: bs)) ++ (if b = true then [((unitsT (false :: bs)).length, [92])] else [])) :=
          (hP.prs D fun p hp => .tail _ (List.mem_append_right _ (List.mem_append_right _ (.tail _ (.tail _ (.tail _ (.tail _ (.tail _ (.tail _ (List.mem_append_left _ hp))))))))))
            |>.append (q4.prs D fun p hp => .tail _ (List.mem_append_left _ (.tail _ hp)))
        refine ne_pairs_ (D.get (.tail _ (List.mem_append_right _ (List.mem_append_left _ (.head _))))) (n' := 0) D.get0 hp1 hp2 ?_ (by show A.units + 3 + 64 < cLine; omega) ?_
        · intro it hit
          rcases List.mem_append.mp hit with hit | hit
          · rcases esc_ok _ _ it hit with q | q <;> rw [q] <;> decide +kernel
          · cases b with
            | false => simp at hit
            | true => simp at hit; subst hit; show PyData.strOk ⟨#[92]⟩ = true; decide +kernel
        refine wpAny_truthy_bool ?_
        rw [if_neg (by decide)]
        refine xn_ ?_
        refine wpAny_execs_cons (wpAny_If (wpAny_isTrue_Compare1 ?_))
        refine Call_ (ggl_ D Bh g_numbers ?_)
        refine cw_ Bh k_numbers (spliced_more ?_)
        refine wpAny_BinOp (gcl_ D rfl (.tail _ (List.mem_append_right _ (List.mem_append_right _ (.tail _ (.tail _ (.tail _ (.tail _ (.tail _ (.head _))))))))) hoc ?_)
        refine gln_ D (v := .str ⟨(if b = true then [92] else []).toArray⟩ uv) (by walk_at "lk") ?_
        refine cat_ (by rw [str_len, str_len]; cases b <;> simp <;> omega) fun u26 tk26 h26 => ?_
        refine spliced_none ⟨D.base Bh, ca_ ?_⟩
        rw [str_app]
        have D1 := D.sub (((List.sublist_append_right _ _).trans (List.sublist_append_right _ _)).trans (List.sublist_cons_self _ _))
        have hout : ∀ e : Env, e.frame = some h.objs.size → [e, env1].filterMap (·.frame) = [h.objs.size, F1] := fun e q => by simp [q, hf1]
        refine numbers_C (us := false :: bs) (tail := b) B (fun b o e => D.F.keep _ _ (kbh b o e)) ?_ (belowR hfr hf1 hk1 (o1 := { o1 with slots := sl }) hn1 hbF (by decide : ScopeKind.function ≠ ScopeKind.module) rfl D1 (.tail _ (.tail _ (.tail _ (.tail _ (.head _))))) (fun b o e => D.F.keep _ _ (kbh b o e)) hbL) ?_ (by show A.depth + 1 + 1 < _; omega) hA rfl (by show (List.toArray _).size ≤ 1000; rw [List.size_toArray]; omega) fun h27 tk27 r2 vs2 n2 hT27 hk27 hu27 hr2 hI2 hn2 => ?_
        · exact Nat.le_trans hs (Nat.le_trans (Nat.le_of_eq (Heap.hide_size h F1).symm) D.base_lt)
        · intro a ha
          rw [hout _ rfl] at ha
          rcases List.mem_cons.mp ha with rfl | ha
          · exact hbL
          · rcases List.mem_singleton.mp ha with rfl
            exact hbF
        have hk27' : ∀ b o, b ≠ h.objs.size → b ≠ F1 → h24.get? b = some o → h27.get? b = some o := fun b o n1 n3 => hk27 b o (by rw [hout _ rfl]; intro q; rcases List.mem_cons.mp q with q | q <;> first | exact n1 q | exact n3 (List.mem_singleton.mp q))
        obtain ⟨sl', D⟩ := (D1.perm (List.perm_middle (l₁ := [_, _, _, _])).symm).slots hk27' hu27 hn1
        replace D := D.perm (List.perm_middle (l₁ := [_, _, _, _]))
        refine gln_ D (v := .ref na) (by walk_at "lk") ?_
        refine ne_intsK (lst_is hr2) hI2 (lst_is (D.get (.tail _ (.tail _ (.tail _ (.head _)))))) hN (by show A.units + 3 + 64 < cLine; omega) ?_
        refine wpAny_truthy_bool ?_
        rw [if_neg (by simp)]
        refine xn_ (xn_ ?_)
        exact ⟨h27, gN g (i + 1), tk27, _, _, rfl, D, sl', tl, rfl, rfl, by walk_at "lk", by walk_at "lk", by walk_at "lk", by walk_at "lk", by walk_at "lk"⟩
    · rintro h20 g₁ tk20 m₁ cs₁ hT20 ⟨sl, tl, rfl, rfl, f1, f2, f4, f5, f6⟩ D
      dsimp only
      obtain ⟨el, hel⟩ : ∃ el, es.getLast? = some el := by
        cases hq : es.getLast? with
        | some el => exact ⟨el, rfl⟩
        | none =>
          rw [List.getLast?_eq_none_iff] at hq
          subst hq
          exact absurd (List.length_eq_zero_iff.mp hlen.symm) hpos
      have hEl : IsEnd el := hE el (List.mem_of_getLast? hel)
      obtain ⟨uel, huel⟩ := heS.2 (es.length - 1) el (by rw [← List.getLast?_eq_getElem?]; exact hel)
      have hevl : ev.getLast? = some (.str ⟨el.toArray⟩ uel) := by rw [List.getLast?_eq_getElem?, heS.1]; exact huel
      have szM := bodyM_len l hlE
      have szN := bodyN_len l
      have szD := bodyD_len l
      have szE : el.length ≤ 2 := by rcases hEl with q | q | q <;> rw [q] <;> decide
      have hsl : (1000 : Nat) ≤ sizeLine := Nat.le_of_ble_eq_true rfl
      refine wpAny_execs_cons (asg_ (Call_ (ggl_ D Bh g_quote ?_)))
      refine cw_ Bh k_quote (spliced_more ?_)
      refine wpAny_BinOp (gln_ D (v := .str ⟨(46 :: bodyM l).toArray⟩ u2) (by walk_at "lk") (Subscript_ (gln_ D (v := .ref ea) (by walk_at "lk") (wpAny_UnaryOp (ci_ fun u21 tk21 h21 => PyProof.Rows.neg_int (itemN_ (hle2 D) hevl ?_))))))
      refine cat_ (by rw [str_len, str_len]; simp; omega) fun u22 tk22 h22 => ?_
      refine spliced_none ⟨D.base Bh, ca_ ?_⟩
      rw [str_app, List.cons_append]
      refine quote_C (D.base Bh) (by show A.depth + 1 < _; omega) hA (by show (List.toArray _).size ≤ 1000; rw [List.size_toArray]; simp; omega) (by show (sub2 (46 :: (bodyM l ++ el))).length ≤ 1000; rw [quote_len hEl l hlE]; simp; omega) fun h23 tk23 u23 hT23 K23 => ?_
      replace D := D.keep K23
      rw [show (⟨(sub1 true (sub2 (List.toArray (46 :: (bodyM l ++ el))).toList)).toArray⟩ : Str) = ⟨(46 :: 46 :: (bodyD l ++ [13, 10])).toArray⟩ from by rw [show (List.toArray (46 :: (bodyM l ++ el))).toList = 46 :: (bodyM l ++ el) from rfl, quote_mail hEl l hlE]]
      refine gsn_ D fun h24 tk24 hT24 D => ?_
      refine wpAny_execs_cons (wpAny_If (wpAny_isTrue_Compare1 ?_))
      refine gln_ D (v := .str ⟨(46 :: 46 :: (bodyD l ++ [13, 10])).toArray⟩ u23) (by walk_at "lk") ?_
      refine wpAny_BinOp (gln_ D (v := .str ⟨(46 :: 46 :: bodyD l).toArray⟩ u3) (by walk_at "lk") (cs_ fun u25 tk25 h25 h25' => ?_))
      rw [s_crlf]
      refine cat_ (by rw [str_len]; show _ + 2 ≤ _; simp; omega) fun u26 tk26 h26 => ?_
      refine PyProof.Rows.ne_str ?_
      refine wpAny_truthy_bool ?_
      rw [show (⟨#[13, 10]⟩ : Str) = ⟨[13, 10].toArray⟩ from rfl, str_app, if_neg (by simp)]
      refine xn_ ?_
      refine wpAny_execs_cons (wpAny_Return_some ?_)
      refine Call_ (ggl_ D Bh g_rows ?_)
      refine cw_ Bh k_rows (spliced_more ?_)
      refine gln_ D (v := .str ⟨(46 :: 46 :: (bodyD l ++ [13, 10])).toArray⟩ u23) (by walk_at "lk") ?_
      refine spliced_none ⟨D.base Bh, ca_ ?_⟩
      have hrs : rowsStr (rowsOf bs) = 46 :: 46 :: (bodyD l ++ [13, 10]) := by rw [← hlm]; exact rows_body l 2
      refine rows_C (ds := rowsOf bs) (D.base Bh) (by show A.depth + 1 + 1 < _; omega) hA (by omega) hrs.symm (by rw [hrs]; simp; omega) fun h27 tk27 r vs n hT27 K27 hr hI hn => ?_
      intro hTT
      have hF1 := D.get (.tail _ (.tail _ (.tail _ (.head _))))
      refine k h27 tk27 r vs n hTT (fun b o hb e => K27 _ _ (D.F.keep _ _ (hide_get hb e))) ⟨sl, K27 _ _ hF1⟩ hr hI ?_
      cases q : h.get? r with
      | none => rfl
      | some o =>
        by_cases hb : r = F1
        · subst hb; rw [hF1] at hn; cases hn
        · rw [D.F.keep _ _ (hide_get hb q)] at hn; cases hn
end
end Mine

end
section
open PySem PySem.W PyProof.Rows PySem.Calls
namespace Mine
/-- what a turn of the outer of two clauses does -/
abbrev emit2 (elt iter iter2 t1 t2 : Expr) (ifs1 ifs2 : List Expr) (scope : Scope) (pos : Pos) (acc : Value) (env : Env) : Sem Unit := do
  let x ← eval iter2 env
  standAt iter2.pos
  let x ← foldedSetIterable iter2 env x
  let _ ← runOwn (.compStart (.ListComp elt [⟨t1, iter, ifs1, 0⟩, ⟨t2, iter2, ifs2, 0⟩] scope pos) 1 (← holding [x] (pyIter x)) acc env) env
theorem turn2 (elt iter iter2 : Expr) (x1 x2 : Str) (p1 p2 : Pos) (ifs1 ifs2 : List Expr) (scope : Scope) (pos : Pos) (it acc : Value) (env : Env) :
   compTurn (.ListComp elt [⟨.Name x1 p1, iter, ifs1, 0⟩, ⟨.Name x2 p2, iter2, ifs2, 0⟩] scope pos) 0 it acc env = (do
      standAt iter.pos
      match ← pyNext it with
      | none => pure (.done .next)
      | some v =>
        letOwnedTupleGo (.Name x1 p1) it v
        assign (.Name x1 p1) env v
        let ok ← tests ifs1 env
        if ok = true then emit2 elt iter iter2 (.Name x1 p1) (.Name x2 p2) ifs1 ifs2 scope pos acc env
        again (.compLoop (.ListComp elt [⟨.Name x1 p1, iter, ifs1, 0⟩, ⟨.Name x2 p2, iter2, ifs2, 0⟩] scope pos) 0 it acc env)) := by
  unfold compTurn
  dsimp only [List.getElem?_cons_zero, bne]
  simp
  rfl
end Mine

end
section
open PySem PySem.W PyProof.Rows PySem.Calls
namespace Mine
local macro_rules | `(tactic| walk_at "lk") => `(tactic| first | assumption | exact if_pos rfl | (refine (if_neg (by decide)).trans ?_; walk_at "lk") | rfl)
/-- a list of lists of ints, its lists in the ledger -/
def PL (anss : List (List Int)) (vs : List Value) (own : List (Addr × Obj)) : Prop :=
  vs.length = anss.length ∧ ∀ (k : Nat) (a : List Int), anss[k]? = some a → ∃ (r : Addr) (ws : List Value) (n : Nat), vs[k]? = some (.ref r) ∧ (r, lstN ws n) ∈ own ∧ IntsAre ws a
theorem PL.mono {anss : List (List Int)} {vs : List Value} {own own' : List (Addr × Obj)} (x : PL anss vs own) (h : ∀ p ∈ own, p ∈ own') : PL anss vs own' :=
  ⟨x.1, fun k a e => let ⟨r, ws, n, e1, e2, e3⟩ := x.2 k a e; ⟨r, ws, n, e1, h _ e2, e3⟩⟩
theorem PL.snoc {anss : List (List Int)} {vs : List Value} {own : List (Addr × Obj)} {a : List Int} {r : Addr} {ws : List Value} {n : Nat} (x : PL anss vs own) (hm : (r, lstN ws n) ∈ own) (hi : IntsAre ws a) : PL (anss ++ [a]) (vs ++ [.ref r]) own := by
  refine ⟨by simp [x.1], fun k b e => ?_⟩
  by_cases hk : k < anss.length
  · rw [List.getElem?_append_left hk] at e
    obtain ⟨r', ws', n', e1, e2, e3⟩ := x.2 k b e
    exact ⟨r', ws', n', by rw [List.getElem?_append_left (by rw [x.1]; exact hk)]; exact e1, e2, e3⟩
  · rw [List.getElem?_append_right (by omega)] at e
    have hk0 : k - anss.length = 0 := by
      cases q : k - anss.length with
      | zero => rfl
      | succ n => rw [q] at e; simp at e
    rw [hk0] at e
    simp at e
    subst e
    exact ⟨r, ws, n, by rw [List.getElem?_append_right (by rw [x.1]; omega), x.1, hk0]; rfl, hm, hi⟩
theorem PL.nil {own : List (Addr × Obj)} : PL [] [] own := ⟨rfl, fun k a e => by simp at e⟩
/-- may the answer go on so -/
def maySay (b : Bool) (one : List Int) (s : Int) : Bool := if b = true then decide (one.getLast?.getD 0 ≤ s) else decide (s ≤ one.getLast?.getD 0)
def sayL (b : Bool) (one l : List Int) : List (List Int) := (l.filter (maySay b one)).map fun s => one ++ [s]
def stepA (anss : List (List Int)) (b : Bool) : List (List Int) := anss.flatMap fun one => sayL b one [0, 1]

section
variable {w : World} {A : Around} {R : Result → Shared → Prop} {E : Value → Shared → Prop} {s : Shared}
theorem compStart2_ {elt iter iter2 t1 t2 ifs1 ifs2 scope pos it acc env}
    (h0 : codeAny (model PP w) A (.compLoop (.ListComp elt [⟨t1, iter, ifs1, 0⟩, ⟨t2, iter2, ifs2, 0⟩] scope pos) 1 it acc env) R s)
    (h : wpAny (model PP w) A (pyIter it) (fun it' s' => codeAny (model PP w) A (.compLoop (.ListComp elt [⟨t1, iter, ifs1, 0⟩, ⟨t2, iter2, ifs2, 0⟩] scope pos) 1 it' acc env) R s')
      (notedBy (model PP w) A env fun x s' => R (.error x) s') s) :
    codeAny (model PP w) A (.compStart (.ListComp elt [⟨t1, iter, ifs1, 0⟩, ⟨t2, iter2, ifs2, 0⟩] scope pos) 1 it acc env) R s := by
  refine codeAny_of_tree ?_
  show wpAny _ _ ((compStart (.ListComp elt [⟨t1, iter, ifs1, 0⟩, ⟨t2, iter2, ifs2, 0⟩] scope pos) 1 it acc env).onRaise (fun x => do noteFrame x env; standAt theWindowsPlace)) _ _ s
  refine wpAny_notedAt ?_
  unfold compStart
  show wpAny _ _ (ask >>= _) _ _ s
  refine wpAny_bind (wpAny_askSetting (wpAny_ite ?_))
  split
  · first
      | exact wpAny_bind (wpAny_pure (wpAny_pure (And.intro rfl h0)))
      | exact wpAny_pure (And.intro rfl h0)
  · first
      | exact wpAny_bind (wpAny_rule (wpAny_bind (wpAny_standAt (wpAny_bind (wpAny_mono h (fun it' s' h' => wpAny_pure (And.intro rfl h')) fun _ _ x => x)))))
      | (refine wpAny_bind (wpAny_rule ?_); show wpAny _ _ (standAt iter2.pos >>= _) _ _ s; exact wpAny_bind (wpAny_standAt (wpAny_bind (wpAny_mono h (fun it' s' h' => wpAny_pure (And.intro rfl h')) fun _ _ x => x))))
theorem turn21 (elt iter iter2 : Expr) (t1 : Expr) (x2 : Str) (p2 : Pos) (ifs1 ifs2 : List Expr) (scope : Scope) (pos : Pos) (it : Value) (a : Addr) (env : Env) :
   compTurn (.ListComp elt [⟨t1, iter, ifs1, 0⟩, ⟨.Name x2 p2, iter2, ifs2, 0⟩] scope pos) 1 it (.ref a) env = (do
      standAt iter2.pos
      match ← pyNext it with
      | none => pure (.done .next)
      | some v =>
        letOwnedTupleGo (.Name x2 p2) it v
        assign (.Name x2 p2) env v
        let ok ← tests ifs2 env
        if ok = true then emit1 a elt env
        again (.compLoop (.ListComp elt [⟨t1, iter, ifs1, 0⟩, ⟨.Name x2 p2, iter2, ifs2, 0⟩] scope pos) 1 it (.ref a) env)) := by rfl
end
end Mine

end
section
open PySem PySem.W PyProof.Rows PySem.Calls
namespace Mine
local macro_rules | `(tactic| walk_at "lk") => `(tactic| first | assumption | exact if_pos rfl | (refine (if_neg (by decide)).trans ?_; walk_at "lk") | rfl)
section
variable {w : World} {A : Around} {h hh : Heap} {g : Array GenState} {d : Drawn} {t : Nat} {os : OsState} {env : Env} {m : Str → Option Value}
/-- the inner of the two clauses -/
theorem inner_ {I a r : Addr} {o₁ : Obj} {iter test t1 : Expr} {ifs1 : List Expr} {scope : Scope} {pos p2 q1 q2 q3 q4 q5 q6 q7 : Pos} {z1 z2 : Nat}
    (b : Bool) {one : List Int} {done : List (List Int)} {vs ws : List Value} {k n : Nat} {cs : List (Addr × Obj)}
    (hA : A.handled = none) (hx2 : env.kindOf "say" = some .local) (hx1 : env.kindOf "one" = some .local) (hkd : env.scope.kind = .function)
    (D : Led h env.locals hh m ((I, o₁) :: (a, lstN vs k) :: cs)) (hm : m "one" = some (.ref r)) (hr : h.get? r = some (lstN ws n)) (hI : IntsAre ws one) (hsz : one.length ≤ 1000) (hP : PL done vs cs) (hsz2 : done.length ≤ 2000)
    (htest : ∀ {m : Str → Option Value} {hh : Heap} {t : Nat} {cs : List (Addr × Obj)} {s : Int} {u : Tok} {Q : Bool → Shared → Prop}, Led h env.locals hh m cs → m "one" = some (.ref r) → m "say" = some (.int s u) →
      (∀ tk : Nat, t ≤ tk → Q (maySay b one s) ⟨hh, g, d, tk, os⟩) → wpAny (model PP w) A (tests [test] env) Q NoE ⟨hh, g, d, t, os⟩)
    {Q : Unit → Shared → Prop} (kk : ∀ hh' (tk' : Nat) m' vs' k' cs', t ≤ tk' → Led h env.locals hh' m' ((I, o₁) :: (a, lstN vs' k') :: cs') → PL (done ++ sayL b one [0, 1]) vs' cs' → Q () ⟨hh', g, d, tk', os⟩) :
    wpAny (model PP w) A (emit2 (.BinOp (.Name "one" q1) .Add (.List [.Name "say" q2] q3) q4) iter (.List [.Constant (.int 0) z1 q5, .Constant (.int 1) z2 q6] q7) t1 (.Name "say" p2) ifs1 [test] scope pos (.ref a) env) Q NoE ⟨hh, g, d, t, os⟩ := by
  refine wpAny_bind (List_ (spliced_more (ci_ fun u0 tk0 h0 => spliced_more (ci_ fun u1 tk1 h1 => spliced_none (nl_ D (Nat.le_of_ble_eq_true rfl) fun h2 lt K2 _ D => ?_)))))
  refine wpAny_bind (wpAny_standAt ?_)
  refine wpAny_bind (wpAny_pure ?_)
  refine wpAny_bind (wpAny_holding (wpAny_pyIter_list (s := ⟨h2, g, d, tk1, os⟩) (lst_is (n := 0) D.get0) ?_))
  have hlt0 := D.get0
  have hne : lt ≠ h2.objs.size := Nat.ne_of_lt (Heap.lt_size hlt0)
  have D := D.push { cls := .type "list_iterator", data := .fields #[.ref lt, .int 0 0] }
  refine wpAny_bind (wpAny_runOwn ?_)
  have W := Walks.list (prog := PP) (w := w) hA h2.objs.size lt hne #[.int 0 u0, .int 1 u1]
  have hst : (h2.push { cls := .type "list_iterator", data := .fields #[.ref lt, .int 0 0] }).IsListIter h2.objs.size lt 0 ∧ (h2.push { cls := .type "list_iterator", data := .fields #[.ref lt, .int 0 0] }).IsList lt #[.int 0 u0, .int 1 u1] :=
    ⟨⟨_, D.get0, rfl, rfl⟩, lst_is (n := 0) (D.get (.tail _ (.head _)))⟩
  have hL1 : env.locals ≠ lt := Ne.symm (D.N _ (.tail _ (.head _))).2.1
  have hL2 : env.locals ≠ h2.objs.size := Ne.symm (D.N _ (.head _)).2.1
  have loop : ∀ {R : Result → Shared → Prop}, (∀ hh' (tk' : Nat) m' vs' k' cs', t ≤ tk' → Led h env.locals hh' m' ((I, o₁) :: (a, lstN vs' k') :: cs') → PL (done ++ sayL b one [0, 1]) vs' cs' → R (.ok .next) ⟨hh', g, d, tk', os⟩) →
      codeAny (model PP w) A (.compLoop (.ListComp (.BinOp (.Name "one" q1) .Add (.List [.Name "say" q2] q3) q4) [⟨t1, iter, ifs1, 0⟩, ⟨.Name "say" p2, .List [.Constant (.int 0) z1 q5, .Constant (.int 1) z2 q6] q7, [test], 0⟩] scope pos) 1 (.ref h2.objs.size) (.ref a) env) R
        ⟨h2.push { cls := .type "list_iterator", data := .fields #[.ref lt, .int 0 0] }, g, d, tk1, os⟩ := by
    intro R hR
    refine cl_ (h₀ := h) (env := env) (emit := emit1 a _ env) (turn21 _ _ _ _ _ _ _ _ _ _ _ _ _) (WalkK.of W) hx2 hkd
      (fun j m' cs' => m' "one" = some (.ref r) ∧ ∃ vs' k' cs₁, cs' = (lt, lst [.int 0 u0, .int 1 u1]) :: (I, o₁) :: (a, lstN vs' k') :: cs₁ ∧ PL (done ++ sayL b one (([0, 1] : List Int).take j)) vs' cs₁)
      ?_ ?_ D hst ⟨hm, vs, k, cs, rfl, by simpa [sayL] using hP⟩ (fun i h st => let ⟨o, ho, _⟩ := st.1; ⟨o, ho⟩) ?_ ?_
    · intro b hb hbI
      refine .inr ⟨lst [.int 0 u0, .int 1 u1], ?_⟩
      rcases List.mem_cons.mp hb with e | hb
      · exact absurd e hbI
      · rw [List.mem_singleton.mp hb]
        rintro i m cs ⟨_, vs', k', cs₁, rfl, _⟩
        exact .head _
    · intro hb
      rcases List.mem_cons.mp hb with e | hb
      · exact hL2 e
      · exact hL1 (List.mem_singleton.mp hb)
    · rintro j v u m₁ cs₁ o₂ hh1 tk2 hT hU hj hv ⟨hm₁, vs', k', cs₂, rfl, hP'⟩ D
      obtain ⟨s, us, rfl, hs⟩ : ∃ (s : Int) (us : Tok), v = .int s us ∧ ([0, 1] : List Int)[j]? = some s := by
        match j, hv with
        | 0, hv => exact ⟨0, u0, by simpa using hv.symm, rfl⟩
        | 1, hv => exact ⟨1, u1, by simpa using hv.symm, rfl⟩
        | n + 2, hv => simp at hv
      have htk : sayL b one (([0, 1] : List Int).take (j + 1)) = sayL b one (([0, 1] : List Int).take j) ++ (if maySay b one s = true then [one ++ [s]] else []) := by
        rw [List.take_add_one, hs]
        simp only [sayL, List.filter_append, List.map_append, Option.toList_some]
        cases hq : maySay b one s <;> simp [hq]
      have hl2 : (sayL b one (([0, 1] : List Int).take j)).length ≤ 2 := by
        simp only [sayL, List.length_map]
        exact Nat.le_trans (List.length_filter_le _ _) (by rw [List.length_take]; show min j 2 ≤ 2; omega)
      have hlen : vs'.length ≤ 2002 := by rw [hP'.1, List.length_append]; omega
      have hsl : (2002 : Nat) ≤ sizeLine := Nat.le_of_ble_eq_true rfl
      have hwl := hI.length
      refine htest (s := s) (u := us) D (by walk_at "lk") (if_pos rfl) fun tk3 hT3 => ?_
      cases hsay : maySay b one s with
      | true =>
        rw [hsay, if_pos rfl] at htk
        rw [if_pos rfl]
        refine emit1_ (g := g) (d := d) (os := os) ?_
        refine wpAny_BinOp (gln_ D (v := .ref r) (by walk_at "lk") (List_ (spliced_more (gln_ D (v := .int s us) (if_pos rfl) (spliced_none (nl_ D (Nat.le_of_ble_eq_true rfl) fun h3 a3 K3 _ D => ?_)) hkd hx2)) ) hkd hx1)
        refine addl_ D (D.F.keep _ _ hr) (n' := 0) D.get0 (by simp; omega) fun h4 r4 D => ?_
        refine ⟨h4, tk3, h, env.locals, _, _, vs', k', rfl, D.perm (List.perm_middle (l₁ := [_, _, _, _, _])).symm, Nat.le_trans hlen hsl, fun hh' D' => ?_⟩
        refine ⟨hh', tk3, _, _, rfl, D'.perm ((List.perm_append_comm (l₁ := [_, _, _]) (l₂ := [_, _, _])).append_right cs₂), by walk_at "lk", vs' ++ [.ref r4], k' + 1, _, rfl, ?_⟩
        rw [htk, ← List.append_assoc]
        exact (hP'.mono fun p hp => .tail _ (.tail _ hp)).snoc (n := 0) (.head _) (hI.append (.cons s us .nil))
      | false =>
        rw [hsay, if_neg (by decide), List.append_nil] at htk
        rw [if_neg (by decide)]
        exact ⟨hh1, tk3, _, _, rfl, D, by walk_at "lk", vs', k', cs₂, rfl, by rw [htk]; exact hP'⟩
    · rintro hh1 tk2 m₁ cs₁ hT ⟨hm₁, vs', k', cs₂, rfl, hP'⟩ D
      exact hR hh1 tk2 _ vs' k' cs₂ (by omega) (D.sub (List.sublist_cons_self _ _)) hP'
  refine compStart2_ (loop ?_) (W.self 0 _ _ _ hst (loop ?_)) <;>
  · intro hh' tk' m' vs' k' cs' hT D' hP'
    exact wpAny_pure (kk _ _ _ _ _ _ hT D' hP')
end
end Mine

end
section
open PySem PySem.W PyProof.Rows PySem.Calls
namespace Mine
local macro_rules | `(tactic| walk_at "lk") => `(tactic| first | assumption | exact if_pos rfl | (refine (if_neg (by decide)).trans ?_; walk_at "lk") | rfl)
/-- a list of lists of ints in the heap -/
def AL (h : Heap) (anss : List (List Int)) (vs : List Value) : Prop :=
  vs.length = anss.length ∧ ∀ (k : Nat) (a : List Int), anss[k]? = some a → ∃ (r : Addr) (ws : List Value) (n : Nat), vs[k]? = some (.ref r) ∧ h.get? r = some (lstN ws n) ∧ IntsAre ws a
theorem PL.al {h₀ h : Heap} {L : Addr} {m : Str → Option Value} {cs own : List (Addr × Obj)} {anss : List (List Int)} {vs : List Value} (x : PL anss vs own) (D : Led h₀ L h m cs) (ho : ∀ p ∈ own, p ∈ cs) : AL h anss vs :=
  ⟨x.1, fun k a e => let ⟨r, ws, n, e1, e2, e3⟩ := x.2 k a e; ⟨r, ws, n, e1, D.get (ho _ e2), e3⟩⟩
theorem sayL_le (b : Bool) (one l : List Int) : (sayL b one l).length ≤ l.length := by
  simp only [sayL, List.length_map]; exact List.length_filter_le _ _
theorem stepA_len (b : Bool) : ∀ anss : List (List Int), (stepA anss b).length ≤ 2 * anss.length
  | [] => by simp [stepA]
  | a :: r => by
    have ih := stepA_len b r
    have := sayL_le b a [0, 1]
    simp only [stepA, List.flatMap_cons, List.length_append, List.length_cons, List.length_nil] at *
    omega
theorem stepA_item (b : Bool) {anss : List (List Int)} {n : Nat} (h : ∀ a ∈ anss, a.length = n) : ∀ a ∈ stepA anss b, a.length = n + 1 := by
  intro a ha
  simp only [stepA, List.mem_flatMap, sayL, List.mem_map] at ha
  obtain ⟨one, h1, s, _, rfl⟩ := ha
  simp [h one h1]
section
variable {w : World} {A : Around} {E : Value → Shared → Prop} {h : Heap} {g : Array GenState} {d : Drawn} {t : Nat} {os : OsState} {env : Env}
/-- the comprehension of the answers -/
theorem bl2_ {iter test : Expr} {scope : Scope} {pos px p2 q1 q2 q3 q4 q5 q6 q7 : Pos} {z1 z2 : Nat} {cl : List (Str × Addr)} {l : Addr} {vs0 : List Value} {n0 : Nat} {b : Bool} {anss : List (List Int)} {RR : Value → Addr → Result → Shared → Prop}
    (hA : A.handled = none) (hcell : ∀ y ∈ scope.names, y.2 ≠ .cell) (hkind : scope.kind = .function) (hx1 : scope.names.lookup ("one" : Str) = some .local) (hx2 : scope.names.lookup ("say" : Str) = some .local) (hl : h.get? l = some (lstN vs0 n0))
    (hAL : AL h anss vs0) (hsz : ∀ a ∈ anss, a.length ≤ 1000 ∧ a ≠ []) (hsz2 : anss.length ≤ 1000)
    (htest : ∀ {C : Addr} {m : Str → Option Value} {hh : Heap} {t : Nat} {cs : List (Addr × Obj)} {s : Int} {u : Tok} {r : Addr} {ws : List Value} {n : Nat} {one : List Int} {Q : Bool → Shared → Prop}, Led h C hh m cs → m "one" = some (.ref r) → m "say" = some (.int s u) →
      h.get? r = some (lstN ws n) → IntsAre ws one → one ≠ [] → (∀ tk : Nat, t ≤ tk → Q (maySay b one s) ⟨hh, g, d, tk, os⟩) → wpAny (model PP w) A (tests [test] (compEnvC scope cl C env)) Q NoE ⟨hh, g, d, t, os⟩)
    (done : ∀ C a hh (tk : Nat) vs k cs₁ m₁, t ≤ tk → PL (stepA anss b) vs cs₁ → Led h C hh m₁ ((a, lstN vs k) :: cs₁) → RR (.ref a) C (.ok .next) ⟨hh, g, d, tk, os⟩) :
    wpAny (model PP w) A (pyIter (.ref l)) (fun it s₂ => wpAny (model PP w) A (newList []) (fun acc s₃ => wpAny (model PP w) A (newFunctionEnv scope env.globals cl [] env.qual none .none (some env)) (fun cenv s₄ =>
      codeAny (model PP w) A (.compStart (.ListComp (.BinOp (.Name "one" q1) .Add (.List [.Name "say" q2] q3) q4) [⟨.Name "one" px, iter, [], 0⟩, ⟨.Name "say" p2, .List [.Constant (.int 0) z1 q5, .Constant (.int 1) z2 q6] q7, [test], 0⟩] scope pos) 0 it acc { cenv with scope := relabel scope env }) (RR acc cenv.locals) s₄) E s₃) E s₂) E ⟨h, g, d, t, os⟩ := by
  refine wpAny_pyIter_list (s := ⟨h, g, d, t, os⟩) (lst_is hl) ?_
  have hlt : l < h.objs.size := Heap.lt_size hl
  have hne : l ≠ h.objs.size := Nat.ne_of_lt hlt
  have W := Walks.list (prog := PP) (w := w) hA h.objs.size l hne vs0.toArray
  refine blk_ (oI := { cls := .type "list_iterator", data := .fields #[.ref l, .int 0 0] }) (emit := fun a C => emit2 _ iter _ (.Name "one" px) (.Name "say" p2) [] [test] scope pos (.ref a) (compEnvC scope cl C env)) rfl (fun b o e => Heap.get?_push_of_some _ e) (Heap.get?_push_size _ rfl) (Heap.get?_none_of_le (Nat.le_refl _))
    (by rw [Heap.size_push]; exact Nat.le_succ _) (WalkK.of W) (fun s Q E st hQ => W.self 0 s Q E st hQ) ⟨⟨_, Heap.get?_push_size _ rfl, rfl, rfl⟩, (lst_is hl).push _⟩ (fun i h' st => let ⟨o, ho, _⟩ := st.1; ⟨o, ho⟩)
    (fun b hb hbI => ?_) hcell hkind hx1 (fun a C => turn2 _ _ _ _ _ _ _ _ _ _ _ _ _ _) (fun i vs cs => PL (stepA (anss.take i) b) vs cs) PL.nil ?_ ?_
  · rcases List.mem_cons.mp hb with e | hb
    · exact absurd e hbI
    · rw [List.mem_singleton.mp hb]; exact ⟨_, hl⟩
  · rintro C a i v u m₁ vs k cs₁ o₁ hh tk hT hU hi hv hP D
    have hi' : i < vs0.length := by simpa using hi
    obtain ⟨one, hone⟩ : ∃ one, anss[i]? = some one := ⟨anss[i]'(by rw [← hAL.1]; exact hi'), List.getElem?_eq_getElem _⟩
    obtain ⟨r, ws, n, e1, e2, e3⟩ := hAL.2 i one hone
    have hvr : v = .ref r := by
      have : vs0[i]? = some v := by simpa using hv
      rw [e1] at this; exact (Option.some.inj this).symm
    subst hvr
    have hin := List.mem_of_getElem? hone
    have htk : stepA (anss.take (i + 1)) b = stepA (anss.take i) b ++ sayL b one [0, 1] := by
      rw [List.take_add_one, hone]; simp [stepA]
    have hlen : (stepA (anss.take i) b).length ≤ 2000 := Nat.le_trans (stepA_len _ _) (by rw [List.length_take]; omega)
    refine wpAny_tests_nil ?_
    rw [if_pos rfl]
    refine inner_ (env := compEnvC scope cl C env) (r := r) b hA (lookup_relabel_local hx2) (lookup_relabel_local hx1) (by show scope.kind = _; exact hkind) D (if_pos rfl) e2 e3 (hsz _ hin).1 hP hlen (fun D h1 h2 kq => htest D h1 h2 e2 e3 (hsz _ hin).2 kq) fun hh' tk' m' vs' k' cs' hT' D' hP' => ?_
    exact ⟨hh', tk', m', vs', k', cs', rfl, D', by rw [htk]; exact hP'⟩
  · rintro C a hh tk vs k cs₁ m₁ hT hP D
    refine done C a hh tk vs k cs₁ m₁ hT ?_ D
    have e : anss.take vs0.toArray.size = anss := by rw [List.size_toArray, hAL.1]; exact List.take_length
    rw [← e]; exact hP
end
end Mine

end
section
open PySem PySem.W PyProof.Rows PySem.Calls
namespace Mine
local macro_rules | `(tactic| walk_at "lk") => `(tactic| first | assumption | exact if_pos rfl | (refine (if_neg (by decide)).trans ?_; walk_at "lk") | rfl)
section
variable {w : World} {A : Around} {E : Value → Shared → Prop} {h₀ h : Heap} {L : Addr} {m : Str → Option Value} {cs : List (Addr × Obj)} {g : Array GenState} {d : Drawn} {t : Nat} {os : OsState} {env : Env}
theorem mod_ {i j u v} {Q : Value → Shared → Prop} (hj : j ≠ 0) (k : ∀ u tk, t ≤ tk → Q (.int (i.fmod j) u) ⟨h, g, d, tk, os⟩) : wpAny (model PP w) A (binaryOp .Mod (.int i u) (.int j v)) Q E ⟨h, g, d, t, os⟩ := PyProof.Rows.mod_int hj (k _ _ (Nat.le_succ _))
theorem fdiv_ {i j u v} {Q : Value → Shared → Prop} (hj : j ≠ 0) (hs : j.natAbs < 1073741824) (k : ∀ u tk, t ≤ tk → Q (.int (i.fdiv j) u) ⟨h, g, d, tk, os⟩) : wpAny (model PP w) A (binaryOp .FloorDiv (.int i u) (.int j v)) Q E ⟨h, g, d, t, os⟩ :=
  PyProof.Rows.floordiv_int hj (k _ _ (Nat.le_succ _)) (.inl (PyProof.noPylong_small hs))
theorem sl_ {value slice : Expr} {l : Addr} {items : Array Value} {vl vu vk : Value} {lo hi st : Option Int} {ops : List Value} {Q : Value → Shared → Prop}
    (D : Led h₀ L h m cs) (hl : h.IsList l items) (pl : IsPart vl lo) (pu : IsPart vu hi) (pk : IsPart vk st) (h0 : st ≠ some 0) (hsz : items.size ≤ sizeLine)
    (k : ∀ h' r, Led h₀ L h' m ((r, lst (slicePick items lo hi st).toList) :: cs) → Q (.ref r) ⟨h', g, d, t, os⟩)
    (hs : subscripted slice false (.ref l) (.ref h.objs.size) = operate ops (getItem (.ref l) (.ref h.objs.size)) := by with_unfolding_all rfl)
    (ht : ∀ r, letTemporaryGo value (.ref l) r = pure () := by intro _; with_unfolding_all rfl) :
    wpAny (model PP w) A (subscriptTail value slice (.ref l) (.ref h.objs.size)) Q E ⟨h.push { cls := .type "slice", data := .fields #[vl, vu, vk] }, g, d, t, os⟩ := by
  refine subscriptTail_ops (s := ⟨h.push { cls := .type "slice", data := .fields #[vl, vu, vk] }, g, d, t, os⟩) (Heap.IsList.typeIs (s := ⟨h.push { cls := .type "slice", data := .fields #[vl, vu, vk] }, g, d, t, os⟩) (hl.push _)) list_getitem_lookup
    (wpAny_getItem_list_slice (s := ⟨h.push { cls := .type "slice", data := .fields #[vl, vu, vk] }, g, d, t, os⟩) (hl.push _) (Heap.IsSliceOf.new ..) pl pu pk h0 ?_ hsz) hs ht
  refine k _ _ (((D.push { cls := .type "slice", data := .fields #[vl, vu, vk] }).push { cls := .type "list", data := .seq (slicePick items lo hi st) }).sub ((List.sublist_cons_self _ _).cons_cons _))

/-- a comprehension from ints to ints -/
theorem bli_ {elt : Expr} {y : Str} {px : Pos} {iter : Expr} {scope : Scope} {pos : Pos} {cl : List (Str × Addr)} {l : Addr} {its : List Value} {zs : List Int} {f : Int → Int} {RR : Value → Addr → Result → Shared → Prop}
    (hA : A.handled = none) (hcell : ∀ y ∈ scope.names, y.2 ≠ .cell) (hkind : scope.kind = .function) (hx : scope.names.lookup y = some .local) (hl : h.IsList l its.toArray) (hI : IntsAre its zs) (hsz : zs.length ≤ 1000)
    (helt : ∀ {C : Addr} {m : Str → Option Value} {hh : Heap} {t : Nat} {cs : List (Addr × Obj)} {z : Int} {u : Tok} {Q : Value → Shared → Prop}, Led h C hh m cs → m y = some (.int z u) →
      (∀ (u : Tok) (tk : Nat), t ≤ tk → Q (.int (f z) u) ⟨hh, g, d, tk, os⟩) → wpAny (model PP w) A (eval elt (compEnvC scope cl C env)) Q NoE ⟨hh, g, d, t, os⟩)
    (done : ∀ C a hh (tk : Nat) vs k m₁, t ≤ tk → IntsAre vs (zs.map f) → Led h C hh m₁ [(a, lstN vs k)] → RR (.ref a) C (.ok .next) ⟨hh, g, d, tk, os⟩) :
    wpAny (model PP w) A (pyIter (.ref l)) (fun it s₂ => wpAny (model PP w) A (newList []) (fun acc s₃ => wpAny (model PP w) A (newFunctionEnv scope env.globals cl [] env.qual none .none (some env)) (fun cenv s₄ =>
      codeAny (model PP w) A (.compStart (.ListComp elt [⟨.Name y px, iter, [], 0⟩] scope pos) 0 it acc { cenv with scope := relabel scope env }) (RR acc cenv.locals) s₄) E s₃) E s₂) E ⟨h, g, d, t, os⟩ := by
  have hle : ∀ i, (zs.take i).length ≤ 1000 := fun i => by rw [List.length_take]; omega
  have hsl : (1000 : Nat) ≤ sizeLine := Nat.le_of_ble_eq_true rfl
  refine bll_ hA hcell hkind hx hl (fun i vs cs => cs = [] ∧ IntsAre vs ((zs.take i).map f)) ⟨rfl, .nil⟩ ?_ ?_ ?_
  · rintro i vs cs ⟨_, q⟩
    have := q.length
    have := hle i
    rw [List.length_map] at *
    omega
  · rintro C a I i v m₁ vs k cs₁ o₁ hh tk hT hv ⟨rfl, q⟩ D
    have hv' : its[i]? = some v := by simpa using hv
    obtain ⟨z, u, rfl, hz⟩ := hI.at i v hv'
    refine wpAny_tests_nil ?_
    rw [if_pos rfl]
    refine helt D (if_pos rfl) fun u' tk' hT' => ?_
    refine ⟨hh, tk', _, [], rfl, D, rfl, ?_⟩
    rw [List.take_add_one, hz, List.map_append]
    exact q.append (.cons _ u' .nil)
  · rintro C a hh tk vs k cs₁ m₁ hT ⟨rfl, q⟩ D
    refine done C a hh tk vs k m₁ hT ?_ D
    have e : zs.take its.toArray.size = zs := by rw [List.size_toArray, hI.length]; exact List.take_length
    rw [← e]; exact q
/-- a comprehension that keeps some items of a list of lists -/
theorem blf_ {y : Str} {px py : Pos} {iter test : Expr} {scope : Scope} {pos : Pos} {cl : List (Str × Addr)} {l : Addr} {its : List Value} {anss : List (List Int)} {n0 : Nat} {p : List Int → Bool} {RR : Value → Addr → Result → Shared → Prop}
    (hA : A.handled = none) (hcell : ∀ y ∈ scope.names, y.2 ≠ .cell) (hkind : scope.kind = .function) (hx : scope.names.lookup y = some .local) (hl : h.get? l = some (lstN its n0)) (hAL : AL h anss its) (hsz : anss.length ≤ 1000)
    (hyd : (y == ("__debug__" : Str)) = false)
    (htest : ∀ {C : Addr} {m : Str → Option Value} {hh : Heap} {t : Nat} {cs : List (Addr × Obj)} {r : Addr} {ws : List Value} {n : Nat} {one : List Int} {Q : Bool → Shared → Prop}, Led h C hh m cs → m y = some (.ref r) →
      h.get? r = some (lstN ws n) → IntsAre ws one → one ∈ anss → (∀ tk : Nat, t ≤ tk → Q (p one) ⟨hh, g, d, tk, os⟩) → wpAny (model PP w) A (tests [test] (compEnvC scope cl C env)) Q NoE ⟨hh, g, d, t, os⟩)
    (done : ∀ C a hh (tk : Nat) vs k m₁, t ≤ tk → vs.length = (anss.filter p).length → Led h C hh m₁ [(a, lstN vs k)] → RR (.ref a) C (.ok .next) ⟨hh, g, d, tk, os⟩) :
    wpAny (model PP w) A (pyIter (.ref l)) (fun it s₂ => wpAny (model PP w) A (newList []) (fun acc s₃ => wpAny (model PP w) A (newFunctionEnv scope env.globals cl [] env.qual none .none (some env)) (fun cenv s₄ =>
      codeAny (model PP w) A (.compStart (.ListComp (.Name y py) [⟨.Name y px, iter, [test], 0⟩] scope pos) 0 it acc { cenv with scope := relabel scope env }) (RR acc cenv.locals) s₄) E s₃) E s₂) E ⟨h, g, d, t, os⟩ := by
  have hle : ∀ i, ((anss.take i).filter p).length ≤ 1000 := fun i => Nat.le_trans (List.length_filter_le _ _) (by rw [List.length_take]; omega)
  have hsl : (1000 : Nat) ≤ sizeLine := Nat.le_of_ble_eq_true rfl
  refine bll_ hA hcell hkind hx (lst_is hl) (fun i vs cs => cs = [] ∧ vs.length = ((anss.take i).filter p).length) ⟨rfl, rfl⟩ ?_ ?_ ?_
  · rintro i vs cs ⟨_, q⟩
    have := hle i
    omega
  · rintro C a I i v m₁ vs k cs₁ o₁ hh tk hT hv ⟨rfl, q⟩ D
    have hv' : its[i]? = some v := by simpa using hv
    have hi : i < its.length := by
      rcases Nat.lt_or_ge i its.length with q | q
      · exact q
      · rw [List.getElem?_eq_none q] at hv'; cases hv'
    obtain ⟨one, hone⟩ : ∃ one, anss[i]? = some one := ⟨anss[i]'(by rw [← hAL.1]; exact hi), List.getElem?_eq_getElem _⟩
    obtain ⟨r, ws, n, e1, e2, e3⟩ := hAL.2 i one hone
    have hvr : v = .ref r := by rw [e1] at hv'; exact (Option.some.inj hv').symm
    subst hvr
    refine htest D (if_pos rfl) e2 e3 (List.mem_of_getElem? hone) fun tk' hT' => ?_
    rw [List.take_add_one, hone, List.filter_append]
    cases hp : p one with
    | true =>
      rw [if_pos rfl]
      refine gln_ D (v := .ref r) (if_pos rfl) ⟨hh, tk', _, [], rfl, D, rfl, ?_⟩ (by show scope.kind = _; exact hkind) (lookup_relabel_local hx) hyd
      simp [q, hp]
    | false =>
      rw [if_neg (by decide)]
      exact ⟨hh, tk', _, [], rfl, D, rfl, by simp [q, hp]⟩
  · rintro C a hh tk vs k cs₁ m₁ hT ⟨rfl, q⟩ D
    refine done C a hh tk vs k m₁ hT ?_ D
    have e : anss.take its.toArray.size = anss := by rw [List.size_toArray, hAL.1]; exact List.take_length
    rw [← e]; exact q
end
end Mine

end
section
open PySem PySem.W PyProof.Rows PySem.Calls
namespace Mine
theorem Led.new1 {h₀ h h' : Heap} {L a : Addr} {m : Str → Option Value} {o : Obj} {cs : List (Addr × Obj)} (D : Led h₀ L h m cs) (hk : ∀ b o, b ≠ L → h.get? b = some o → h'.get? b = some o) (hs : ∀ o, h.get? L = some o → ∃ sl, h'.get? L = some { o with slots := sl })
    (e : h'.get? a = some o) (hn : h.get? a = none) : Led h₀ L h' m ((a, o) :: cs) := by
  have D' := D.slots1 hk hs
  refine ⟨D'.F, fun p hp => ?_, ?_⟩
  · rcases List.mem_cons.mp hp with rfl | hp
    · refine ⟨e, fun z => ?_, ?_⟩
      · obtain ⟨_, _, _, hL, _⟩ := D.F.ns
        dsimp only at z
        rw [z, hL] at hn; cases hn
      · cases q : h₀.get? a with
        | none => rfl
        | some o₀ => have := D.F.keep _ _ q; rw [hn] at this; cases this
    · exact D'.N p hp
  · rw [List.map_cons, List.nodup_cons]
    refine ⟨fun hm => ?_, D.nd⟩
    obtain ⟨p, hp, z⟩ := List.mem_map.mp hm
    have := D.get hp
    rw [z, hn] at this; cases this
theorem ints_last : ∀ {vs : List Value} {ns : List Int}, IntsAre vs ns → ns ≠ [] → ∃ u, vs.getLast? = some (.int (ns.getLast?.getD 0) u)
  | _, _, .nil, h => absurd rfl h
  | _, _, .cons n u .nil, _ => ⟨u, rfl⟩
  | _, _, .cons n u (.cons n' u' r), _ => by
    obtain ⟨v, e⟩ := ints_last (.cons n' u' r) (by simp)
    exact ⟨v, by simpa [List.getLast?_cons_cons] using e⟩
def ansL (bs : List Bool) : List (List Int) := bs.foldl stepA [[0], [1]]
theorem ansL_snoc (bs : List Bool) (b : Bool) : ansL (bs ++ [b]) = stepA (ansL bs) b := by simp [ansL]
theorem foldl_len : ∀ (bs : List Bool) (a : List (List Int)), (bs.foldl stepA a).length ≤ 2 ^ bs.length * a.length
  | [], a => by simp
  | b :: r, a => by
    have ih := foldl_len r (stepA a b)
    have := stepA_len b a
    simp only [List.foldl_cons, List.length_cons]
    calc _ ≤ 2 ^ r.length * (stepA a b).length := ih
      _ ≤ 2 ^ r.length * (2 * a.length) := Nat.mul_le_mul_left _ this
      _ = 2 ^ (r.length + 1) * a.length := by rw [Nat.pow_succ, Nat.mul_assoc]
theorem ansL_len (bs : List Bool) (h : bs.length ≤ 8) : (ansL bs).length ≤ 1000 := by
  have := foldl_len bs [[0], [1]]
  have h2 : 2 ^ bs.length ≤ 2 ^ 8 := Nat.pow_le_pow_right (by decide) h
  simp only [List.length_cons, List.length_nil] at this
  unfold ansL
  omega
theorem foldl_item : ∀ (bs : List Bool) (a : List (List Int)) (n : Nat), (∀ x ∈ a, x.length = n) → ∀ x ∈ bs.foldl stepA a, x.length = n + bs.length
  | [], a, n, h => by simpa using h
  | b :: r, a, n, h => by
    intro x hx
    have := foldl_item r (stepA a b) (n + 1) (stepA_item b h) x hx
    rw [this, List.length_cons]; omega
theorem ansL_item (bs : List Bool) : ∀ x ∈ ansL bs, x.length = 1 + bs.length := foldl_item bs _ 1 (by simp)
theorem goR_ne : ∀ (bs : List Bool) (c : Nat), goR c bs ≠ []
  | [], c => by simp [goR]
  | false :: r, c => goR_ne r (c + 1)
  | true :: r, c => by simp [goR]
section
variable {w : World} {A : Around} {E : Value → Shared → Prop} {h₀ h : Heap} {L : Addr} {m : Str → Option Value} {cs : List (Addr × Obj)} {g : Array GenState} {d : Drawn} {t : Nat} {os : OsState} {env : Env}
/-- «x, y = list of two» -/
theorem unpack2_ {a b : Str} {pa pb tp : Pos} {kk : Nat} {l : Addr} {v1 v2 : Value} {n : Nat} {Q : Unit → Shared → Prop} (hA : A.handled = none) (D : Led h₀ env.locals h m cs) (hl : h.get? l = some (lstN [v1, v2] n))
    (k : ∀ h' (tk : Nat), t ≤ tk → Led h₀ env.locals h' (fun z => if z = b then some v2 else if z = a then some v1 else m z) cs → Q () ⟨h', g, d, tk, os⟩)
    (hk : env.scope.kind = .function := by rfl) (ha : env.kindOf a = some .local := by rfl) (hb : env.kindOf b = some .local := by rfl) :
    wpAny (model PP w) A (assign (.Tuple [.Name a pa, .Name b pb] kk tp) env (.ref l)) Q E ⟨h, g, d, t, os⟩ := by
  rw [assign_Tuple]
  refine wpAny_bind (wpAny_standAt ?_)
  have hlt : l ≠ h.objs.size := Nat.ne_of_lt (Heap.lt_size hl)
  have hT := (lst_is hl).typeIs (s := ⟨h, g, d, t, os⟩)
  unfold unpack
  refine wpAny_bind (wpAny_holding ?_)
  show wpAny _ _ (unpackItems (.ref l) 2 none) _ _ _
  unfold unpackItems
  refine wpAny_bind ?_
  unfold notIterableAtAll
  refine wpAny_bind (wpAny_specialOf hT slot_list_iter.lookup ?_)
  refine wpAny_pure ?_
  simp only [Bool.false_eq_true, if_false]
  refine wpAny_bind (wpAny_holding (wpAny_pyIter_list (s := ⟨h, g, d, t, os⟩) (lst_is hl) ?_))
  have D1 := D.push { cls := .type "list_iterator", data := .fields #[.ref l, .int 0 0] }
  refine wpAny_bind (wpAny_holding ?_)
  show wpAny _ _ (pyNext (.ref h.objs.size) >>= _) _ _ _
  have hit : (h.push { cls := .type "list_iterator", data := .fields #[.ref l, .int 0 0] }).IsListIter h.objs.size l 0 := ⟨_, D1.get0, rfl, rfl⟩
  refine wpAny_bind (wpAny_pyNext_list_item hit ((lst_is hl).push _) (x := v1) (by simp) fun h₁ hit₁ hs₁ => ?_)
  obtain ⟨o₁, ho₁, r₁⟩ := id hit₁
  have D2 := D1.upd (fun b x hb q => hs₁.extBut b x hb q) ho₁
  have hl1 : h₁.IsList l #[v1, v2] := ((lst_is hl).push _).extBut hs₁.extBut hlt
  refine wpAny_bind (wpAny_holding ?_)
  show wpAny _ _ (pyNext (.ref h.objs.size) >>= _) _ _ _
  refine wpAny_bind (wpAny_pyNext_list_item hit₁ hl1 (x := v2) (by simp) fun h₂ hit₂ hs₂ => ?_)
  obtain ⟨o₂, ho₂, r₂⟩ := id hit₂
  have D3 := D2.upd (fun b x hb q => hs₂.extBut b x hb q) ho₂
  have hl2 : h₂.IsList l #[v1, v2] := hl1.extBut hs₂.extBut hlt
  refine wpAny_bind (wpAny_holding (wpAny_pure ?_))
  refine wpAny_pure ?_
  refine wpAny_pure ?_
  simp only [List.length_cons, List.length_nil]
  rw [if_neg (by decide)]
  refine wpAny_bind (wpAny_holding (wpAny_pyNext_list_end hA hit₂ hl2 (by simp) fun h₃ he₃ => ?_))
  simp only [Option.isSome_none, Bool.false_eq_true, if_false]
  have D4 : Led h₀ env.locals h₃ m cs := D3.lose fun b x hb q => he₃ b x hb q
  refine wpAny_pure ?_
  show wpAny _ _ (assignInOrder [assign (.Name a pa) env, assign (.Name b pb) env] [v1, v2]) _ _ _
  refine assignInOrder_cons (wpAny_assign_Name (gsn_ D4 (fun h₄ tk₄ hT₄ D => ?_) hk ha))
  refine assignInOrder_cons (wpAny_assign_Name (gsn_ D (fun h₅ tk₅ hT₅ D => ?_) hk hb))
  refine assignInOrder_nil ?_
  exact k _ _ (by omega) D
end
end Mine

end
section
open PySem PySem.W PyProof.Rows PySem.Calls
namespace Mine
def noP (one : List Int) : Bool := one.head?.getD 1 == 0
def tornP (one : List Int) : Bool := noP one && one.getLast?.getD 0 == 1
def rowI (bs : List Bool) : List Int := (rowsOf bs).map Int.ofNat
/-- counts of answers: those that end in no, those that end in yes -/
structure Cnt (p : List Int → Bool) (anss : List (List Int)) (x y : Nat) : Prop where
  z : (anss.filter fun a => p a && a.getLast?.getD 0 == 0).length = x
  o : (anss.filter fun a => p a && a.getLast?.getD 0 == 1).length = y
  all : ∀ a ∈ anss, a ≠ [] ∧ (a.getLast?.getD 0 = 0 ∨ a.getLast?.getD 0 = 1)
def Heads (p : List Int → Bool) : Prop := ∀ a s, a ≠ [] → p (a ++ [s]) = p a
theorem Cnt.step {p : List Int → Bool} (hp : Heads p) (b : Bool) : ∀ {anss : List (List Int)} {x y : Nat}, Cnt p anss x y → Cnt p (stepA anss b) (if b = true then x else x + y) (if b = true then x + y else y) := by
  intro anss
  induction anss with
  | nil =>
    intro x y C
    have h1 : x = 0 := C.z.symm
    have h2 : y = 0 := C.o.symm
    subst h1 h2
    exact ⟨by cases b <;> rfl, by cases b <;> rfl, fun a h => by simp [stepA] at h⟩
  | cons one r ih =>
    intro x y C
    obtain ⟨hn, hl⟩ := C.all one (.head _)
    have Cr : Cnt p r (r.filter fun a => p a && a.getLast?.getD 0 == 0).length (r.filter fun a => p a && a.getLast?.getD 0 == 1).length := ⟨rfl, rfl, fun a h => C.all a (.tail _ h)⟩
    have I := ih Cr
    have e : stepA (one :: r) b = sayL b one [0, 1] ++ stepA r b := by simp [stepA]
    have hz := C.z
    have ho := C.o
    have pz := hp one 0 hn
    have po := hp one 1 hn
    rw [e]
    refine ⟨?_, ?_, ?_⟩
    · rw [List.filter_append, List.length_append, I.z, ← hz, ← ho]
      rcases hl with hl | hl <;> cases b <;> cases hq : p one <;> simp [sayL, maySay, hl, pz, po, hq] <;> omega
    · rw [List.filter_append, List.length_append, I.o, ← hz, ← ho]
      rcases hl with hl | hl <;> cases b <;> cases hq : p one <;> simp [sayL, maySay, hl, pz, po, hq] <;> omega
    · intro a ha
      rcases List.mem_append.mp ha with ha | ha
      · simp only [sayL, List.mem_map, List.mem_filter] at ha
        obtain ⟨s, ⟨hs, _⟩, rfl⟩ := ha
        refine ⟨by simp, ?_⟩
        simp at hs
        simpa using hs
      · exact I.all a ha
theorem Cnt.sum {p : List Int → Bool} : ∀ {anss : List (List Int)} {x y : Nat}, Cnt p anss x y → (anss.filter p).length = x + y := by
  intro anss
  induction anss with
  | nil =>
    intro x y C
    have h1 : x = 0 := C.z.symm
    have h2 : y = 0 := C.o.symm
    subst h1 h2
    rfl
  | cons one r ih =>
    intro x y C
    obtain ⟨hn, hl⟩ := C.all one (.head _)
    have I := ih (⟨rfl, rfl, fun a h => C.all a (.tail _ h)⟩ : Cnt p r _ _)
    rw [← C.z, ← C.o]
    rcases hl with hl | hl <;> cases hq : p one <;> simp [hl, hq, I] <;> omega
def cntB (bs : List Bool) (q : Nat × Nat) : Nat × Nat := bs.foldl (fun q b => if b = true then (q.1, q.1 + q.2) else (q.1 + q.2, q.2)) q
theorem Cnt.fold {p : List Int → Bool} (hp : Heads p) : ∀ (bs : List Bool) {anss : List (List Int)} {q : Nat × Nat}, Cnt p anss q.1 q.2 → Cnt p (bs.foldl stepA anss) (cntB bs q).1 (cntB bs q).2
  | [], _, _, C => C
  | b :: r, anss, q, C => by
    have S := C.step hp b
    have := Cnt.fold hp r (anss := stepA anss b) (q := if b = true then (q.1, q.1 + q.2) else (q.1 + q.2, q.2)) (by cases b <;> exact S)
    exact this
theorem heads_no : Heads noP := by
  intro a s h
  cases a with
  | nil => exact absurd rfl h
  | cons x r => rfl
theorem cnt_all (bs : List Bool) : Cnt (fun _ => true) (ansL bs) (cntB bs (1, 1)).1 (cntB bs (1, 1)).2 := Cnt.fold (fun _ _ _ => rfl) bs ⟨rfl, rfl, by simp⟩
theorem cnt_no (bs : List Bool) : Cnt noP (ansL bs) (cntB bs (1, 0)).1 (cntB bs (1, 0)).2 := Cnt.fold heads_no bs ⟨rfl, rfl, by simp⟩
/-- the law in plain words -/
def lawOk (bs : List Bool) : Bool :=
  let R := rowI bs
  let T := rowI (bs.map (!·))
  let p := cntB bs (1, 1)
  let q := cntB bs (1, 0)
  let c : Int := (p.1 + p.2 : Nat)
  let n : Int := (q.1 + q.2 : Nat)
  let tt : Int := (q.2 : Nat)
  foldL R.reverse == (c, n) && foldL (R.reverse ++ [1] ++ T) == ((0 : Int), (1 : Int)) && (foldL R).1 == c && (foldL R).2 * n - (foldL R).1 * tt == 1
def allB : Nat → List (List Bool)
  | 0 => [[]]
  | n + 1 => (allB n).flatMap fun l => [false :: l, true :: l]
theorem mem_allB : ∀ bs : List Bool, bs ∈ allB bs.length
  | [] => .head _
  | b :: r => by
    simp only [List.length_cons, allB, List.mem_flatMap]
    exact ⟨r, mem_allB r, by cases b <;> simp⟩
theorem law4 : (allB 4).all lawOk = true := by decide +kernel
theorem law5 : (allB 5).all lawOk = true := by decide +kernel
theorem law6 : (allB 6).all lawOk = true := by decide +kernel
theorem law7 : (allB 7).all lawOk = true := by decide +kernel
theorem law8 : (allB 8).all lawOk = true := by decide +kernel
theorem law_all (bs : List Bool) (h4 : 4 ≤ bs.length) (h8 : bs.length ≤ 8) : lawOk bs = true := by
  have hm := mem_allB bs
  rcases (by omega : bs.length = 4 ∨ bs.length = 5 ∨ bs.length = 6 ∨ bs.length = 7 ∨ bs.length = 8) with e | e | e | e | e <;> rw [e] at hm
  · exact List.all_eq_true.mp law4 _ hm
  · exact List.all_eq_true.mp law5 _ hm
  · exact List.all_eq_true.mp law6 _ hm
  · exact List.all_eq_true.mp law7 _ hm
  · exact List.all_eq_true.mp law8 _ hm
theorem law_facts {bs : List Bool} (h4 : 4 ≤ bs.length) (h8 : bs.length ≤ 8) :
    foldL (rowI bs).reverse = ((((ansL bs).length : Nat) : Int), ((((ansL bs).filter noP).length : Nat) : Int)) ∧ foldL ((rowI bs).reverse ++ [1] ++ rowI (bs.map (!·))) = (0, 1) ∧
    (foldL (rowI bs)).1 = ((ansL bs).length : Nat) ∧ (foldL (rowI bs)).2 * (((ansL bs).filter noP).length : Nat) - (foldL (rowI bs)).1 * (((ansL bs).filter tornP).length : Nat) = 1 := by
  have h := law_all bs h4 h8
  have e1 : (ansL bs).length = (cntB bs (1, 1)).1 + (cntB bs (1, 1)).2 := by
    have := (cnt_all bs).sum
    rwa [List.filter_eq_self.mpr (fun _ _ => rfl)] at this
  have e2 := (cnt_no bs).sum
  have e3 : ((ansL bs).filter tornP).length = (cntB bs (1, 0)).2 := (cnt_no bs).o
  rw [e1, e2, e3]
  simp only [lawOk, Bool.and_eq_true, beq_iff_eq] at h
  exact ⟨h.1.1.1, h.1.1.2, h.1.2, h.2⟩
theorem goR_bound : ∀ (bs : List Bool) (c : Nat), 2 ≤ c → ∀ d ∈ goR c bs, d ≤ c + bs.length
  | [], c, _, d, h => by simp [goR] at h; omega
  | false :: r, c, hc, d, h => by
    have := goR_bound r (c + 1) (by omega) d h
    simp only [List.length_cons]; omega
  | true :: r, c, hc, d, h => by
    simp only [goR, List.mem_cons] at h
    rcases h with rfl | h
    · omega
    · have := goR_bound r 2 (Nat.le_refl _) d h
      simp only [List.length_cons]; omega
theorem bits_small (n : Nat) (h : n < 1024) : Builtin.Int.intBits (n : Int) ≤ 64 := by
  have : ∀ k : Fin 1024, Builtin.Int.intBits ((k.val : Nat) : Int) ≤ 64 := by decide +kernel
  exact this ⟨n, h⟩
theorem rowI_bits (bs : List Bool) (h : bs.length ≤ 8) : ∀ d ∈ rowI bs, Builtin.Int.intBits d ≤ 64 := by
  intro d hd
  obtain ⟨n, hn, rfl⟩ := List.mem_map.mp hd
  have := goR_bound bs 2 (Nat.le_refl _) n hn
  exact bits_small n (by omega)
theorem rowI_len (bs : List Bool) : (rowI bs).length ≤ bs.length + 1 := by
  have : ∀ (l : List Bool) (c : Nat), (goR c l).length ≤ l.length + 1 := by
    intro l
    induction l with
    | nil => intro c; simp [goR]
    | cons b r ih =>
      intro c
      cases b
      · simp only [goR, List.length_cons]; have := ih (c + 1); omega
      · simp only [goR, List.length_cons]; have := ih 2; omega
  simpa [rowI, rowsOf] using this bs 2
theorem ints_head {vs : List Value} {ns : List Int} (h : IntsAre vs ns) (hn : ns ≠ []) : ∃ u, vs[0]? = some (.int (ns.head?.getD 1) u) := by
  cases h with
  | nil => exact absurd rfl hn
  | cons n u r => exact ⟨u, rfl⟩
end Mine

end
section
open PySem PySem.W PyProof.Rows PySem.Calls
namespace Mine
local macro_rules | `(tactic| walk_at "lk") => `(tactic| first | assumption | exact if_pos rfl | (refine (if_neg (by decide)).trans ?_; walk_at "lk") | rfl)
theorem g_read : nsIn (KK w) mainGlobals "_law_read" = some (some (.ref 107)) := by kernel_rfl
theorem g_fold : nsIn (KK w) mainGlobals "_law_fold" = some (some (.ref 114)) := by kernel_rfl
theorem k_read : keepIn (KK w) (.ref 107) = true := by kernel_rfl
theorem k_fold : keepIn (KK w) (.ref 114) = true := by kernel_rfl
/-- the letters of the law -/
def drawnL (ns : List Int) : List Int := (ns.take 8).map (·.fmod 1000000) ++ ([1, 6, 4, 3] : List Int).drop (min 8 ns.length)
theorem drawnL_len (ns : List Int) : 4 ≤ (drawnL ns).length ∧ (drawnL ns).length ≤ 8 := by
  simp only [drawnL, List.length_append, List.length_map, List.length_take, List.length_drop, List.length_cons, List.length_nil]
  omega
def endOf (x : Int) : List Nat := if (x.fdiv 2).fmod 3 = 0 then [10] else if (x.fdiv 2).fmod 3 = 1 then [13] else [13, 10]
def letOf (x : Int) : Bool := x.fmod 2 == 1
theorem fmod2 (x : Int) : bitN (letOf x) = x.fmod 2 := by
  unfold bitN letOf
  have h1 := Int.fmod_nonneg_of_pos x (b := 2) (by decide)
  have h2 := Int.fmod_lt_of_pos x (b := 2) (by decide)
  split <;> simp_all <;> omega
theorem bit_not (b : Bool) : 1 - bitN b = bitN (!b) := by cases b <;> rfl
section
variable {w : World} {A : Around} {R : Result → Shared → Prop} {h : Heap} {g : Array GenState} {d : Drawn} {t : Nat} {os : OsState}
set_option maxHeartbeats 2000000 in
set_option maxRecDepth 20000 in
theorem law_C {sl : Addr} {xs : List Value} {ns : List Int} (B : Base w h) (hroom : A.depth + 3 < recursionLimit) (hA : A.handled = none) (hu : A.units + 70 < cLine) (hfr : A.frames = some [])
    (hsl : h.IsList sl xs.toArray) (hI : IntsAre xs ns) (hlen : ns.length ≤ 63)
    (k : ∀ h' (tk : Nat), Kp h h' → R (.ok (.ret (.bool true))) ⟨h', gN g 4, d, tk, os⟩) :
    codeAny (model PP w) A (.call (.ref 119) ⟨[.ref sl], []⟩) R ⟨h, g, d, t, os⟩ := by
  have ho := B.X 119 _ rfl
  refine ent_ B (by omega) ho (by kernel_rfl) rfl rfl fun h₁ tk hT D => ?_
  clear ho
  rw [s_nl, s_cr, s_crlf]
  have hsk : ∀ {h'' : Heap} {L m cs}, Led h L h'' m cs → h''.IsList sl xs.toArray := fun D => let ⟨o, e, r⟩ := hsl; ⟨o, D.F.keep _ _ e, r⟩
  have hsl1 : (1000 : Nat) ≤ sizeLine := Nat.le_of_ble_eq_true rfl
  refine wpAny_execs_cons (lca_ rfl (closureFor_none (by decide)) rfl (by decide) (Subscript_ (gln_ D (v := .ref sl) (by walk_at "lk") ?_)))
  refine wpAny_Slice (ep0_ (ep1_ (ci_ fun u1 tk1 hT1 => ep0_ ?_)))
  refine sl_ D (hsk D) .none (.int 8 u1) .none (by simp) (by rw [List.size_toArray, hI.length]; omega) fun h2 r2 D => ?_
  rw [show slicePick xs.toArray none (some 8) none = (xs.take 8).toArray from slicePick_upto' xs.toArray 8] at D
  have hI8 := hI.take 8
  refine bli_ (f := fun x => x.fmod 1000000) hA (by decide) rfl rfl (lst_is (n := 0) D.get0) hI8 (by rw [List.length_take]; omega) ?_ ?_
  · intro C m hh t cs z u Q Db hm kq
    exact wpAny_BinOp (gln_ Db (v := .int z u) hm (ci_ fun u2 tk2 hT2 => mod_ (by decide) fun u3 tk3 hT3 => kq _ _ (by omega)))
  intro C a hh tk4 vs4 k4 m4 hT4 hI4 Db
  refine pa_ D Db fun h5 tk5 hT5 D => ?_
  have hlv4 : vs4.length = min 8 ns.length := by rw [hI4.length, List.length_map, List.length_take]
  refine wpAny_execs_cons (asg_ (wpAny_BinOp (gln_ D (v := .ref a) (by walk_at "lk") (Subscript_ ?_))))
  refine List_ (spliced_more (ci_ fun u6 tk6 hT6 => spliced_more (ci_ fun u7 tk7 hT7 => spliced_more (ci_ fun u8 tk8 hT8 => spliced_more (ci_ fun u9 tk9 hT9 => spliced_none ?_)))))
  refine nl_ D (Nat.le_of_ble_eq_true rfl) fun h10 r10 K10 _ D => ?_
  refine wpAny_Slice (ep1_ (Call_ (gbn_ D B n_len b_len (by decide) (callWith_method1 (first := []) (spliced_more (gln_ D (v := .ref a) (by walk_at "lk") (spliced_none (len_list_ (D.get (.tail _ (.head _))) (by rw [hlv4]; omega) fun u11 tk11 hT11 => ep0_ (ep0_ ?_)))))))))
  refine kba_turn (value' := .Name "_" ⟨0, 0, 0, 0⟩) (fun _ => rfl) ?_
  refine sl_ D (lst_is (n := 0) D.get0) (.int _ u11) .none .none (by simp) (Nat.le_of_ble_eq_true rfl) fun h12 r12 D => ?_
  rw [slicePick_from'] at D
  have hI12 : IntsAre ([.int 1 u6, .int 6 u7, .int 4 u8, .int 3 u9].drop vs4.length) (([1, 6, 4, 3] : List Int).drop (min 8 ns.length)) := by
    rw [hlv4]; exact (IntsAre.cons 1 u6 (.cons 6 u7 (.cons 4 u8 (.cons 3 u9 .nil)))).drop _
  refine addl_ D (D.get (.tail _ (.tail _ (.head _)))) (n' := 0) D.get0 (by simp only [List.length_drop, List.length_cons, List.length_nil]; omega) fun h13 r13 D => ?_
  have hI13 := hI4.append hI12
  rw [show ((ns.take 8).map fun x => x.fmod 1000000) ++ ([1, 6, 4, 3] : List Int).drop (min 8 ns.length) = drawnL ns from rfl] at hI13
  obtain ⟨hd4, hd8⟩ := drawnL_len ns
  generalize drawnL ns = ds at hI13 hd4 hd8
  refine gsn_ D fun h14 tk14 hT14 D => ?_
  refine wpAny_execs_cons (lca_ rfl (closureFor_none (by decide)) rfl (by decide) (gln_ D (v := .ref r13) (by walk_at "lk") ?_))
  refine bli_ (f := fun x => x.fmod 2) hA (by decide) rfl rfl (lst_is (n := 0) D.get0) hI13 (by omega) ?_ ?_
  · intro C m hh t cs z u Q Db hm kq
    exact wpAny_BinOp (gln_ Db (v := .int z u) hm (ci_ fun u2 tk2 hT2 => mod_ (by decide) fun u3 tk3 hT3 => kq _ _ (by omega)))
  intro C la hh tk15 lv nl m15 hT15 hlI Db
  refine pa_ D Db fun h16 tk16 hT16 D => ?_
  refine wpAny_execs_cons (lca_ rfl (closureFor_none (by decide)) rfl (by decide) (gln_ D (v := .ref r13) (by walk_at "lk") ?_))
  have hdl := hI13.length
  refine bll_ hA (by decide) rfl rfl (lst_is (n := 0) (D.get (.tail _ (.head _)))) (fun i vs _ => StrsL vs ((ds.take i).map endOf)) ⟨rfl, fun i e q => by simp at q⟩ ?_ ?_ ?_
  · intro i vs cs q
    have := q.1
    rw [List.length_map, List.length_take] at this
    omega
  · intro C a I i v m₁ vs k cs₁ o₁ hh tk17 hT17 hv q Db
    obtain ⟨z, u, rfl, hz⟩ := hI13.at i v (by simpa using hv)
    refine wpAny_tests_nil ?_
    rw [if_pos rfl]
    have hr1 := Int.fmod_nonneg_of_pos (z.fdiv 2) (b := 3) (by decide)
    have hr2 := Int.fmod_lt_of_pos (z.fdiv 2) (b := 3) (by decide)
    refine Subscript_ (List_ (spliced_more (cs_ fun u18 tk18 h18 h18' => spliced_more (cs_ fun u19 tk19 h19 h19' => spliced_more (cs_ fun u20 tk20 h20 h20' => spliced_none ?_)))))
    refine nl_ Db (Nat.le_of_ble_eq_true rfl) fun h21 r21 K21 _ Db => ?_
    refine wpAny_BinOp (wpAny_BinOp (gln_ Db (v := .int z u) (if_pos rfl) (ci_ fun u22 tk22 h22 => fdiv_ (by decide) (by decide) fun u23 tk23 h23 => ci_ fun u24 tk24 h24 => mod_ (by decide) fun u25 tk25 h25 => ?_)))
    refine kba_turn (value' := .Name "_" ⟨0, 0, 0, 0⟩) (fun _ => rfl) ?_
    obtain ⟨ue, hue⟩ : ∃ ue, ([.str ⟨#[10]⟩ u18, .str ⟨#[13]⟩ u19, .str ⟨#[13, 10]⟩ u20] : List Value)[((z.fdiv 2).fmod 3).toNat]? = some (.str ⟨(endOf z).toArray⟩ ue) := by
      unfold endOf
      by_cases e0 : (z.fdiv 2).fmod 3 = 0
      · rw [if_pos e0, e0]; exact ⟨_, rfl⟩
      · by_cases e1 : (z.fdiv 2).fmod 3 = 1
        · rw [if_neg e0, if_pos e1, e1]; exact ⟨_, rfl⟩
        · have e2 : (z.fdiv 2).fmod 3 = 2 := by omega
          rw [if_neg e0, if_neg e1, e2]; exact ⟨_, rfl⟩
    refine item_ (n := 0) Db.get0 hr1 (by omega) hue ?_
    refine ⟨h21, tk25, _, _, rfl, Db.perm (List.perm_middle (l₁ := [_, _]) (a := _)), ?_⟩
    rw [List.take_add_one, hz, List.map_append]
    refine ⟨by simp [q.1], fun j e he => ?_⟩
    rcases Nat.lt_or_ge j ((ds.take i).map endOf).length with hj | hj
    · rw [List.getElem?_append_left hj] at he
      obtain ⟨uu, hu⟩ := q.2 j e he
      exact ⟨uu, by rw [List.getElem?_append_left (by rw [q.1]; exact hj)]; exact hu⟩
    · rw [List.getElem?_append_right hj] at he
      have hj0 : j - ((ds.take i).map endOf).length = 0 := by
        cases qq : j - ((ds.take i).map endOf).length with
        | zero => rfl
        | succ n => rw [qq] at he; simp at he
      rw [hj0] at he
      simp at he
      subst he
      exact ⟨ue, by rw [List.getElem?_append_right (by rw [q.1]; exact hj), q.1, hj0]; rfl⟩
  intro C ea hh tk26 ev k26 cs₁ m₁ hT26 heS Db
  rw [List.size_toArray, hdl, List.take_length] at heS
  refine pa_ D Db fun h27 tk27 hT27 D => ?_
  replace D := D.sub (((List.nil_sublist cs₁).cons_cons _).append ((List.nil_sublist _).cons_cons _))
  have hbl : (ds.map letOf).length = ds.length := List.length_map _
  have hel : (ds.map endOf).length = (ds.map letOf).length := by rw [List.length_map, List.length_map]
  have hbI : IntsAre lv ((ds.map letOf).map bitN) := by
    rw [List.map_map, show (bitN ∘ letOf) = fun x => x.fmod 2 from funext fmod2]; exact hlI
  have hEE : ∀ e ∈ ds.map endOf, IsEnd e := by
    intro e he
    obtain ⟨x, _, rfl⟩ := List.mem_map.mp he
    unfold endOf
    split
    · exact .inl rfl
    · split
      · exact .inr (.inl rfl)
      · exact .inr (.inr rfl)
  generalize ds.map endOf = es at heS hel hEE
  generalize hbs : ds.map letOf = bs at hbl hel hbI
  have hb4 : 4 ≤ bs.length := by omega
  have hb8 : bs.length ≤ 8 := by omega
  have hne : bs ≠ [] := by intro q; rw [q] at hb4; simp at hb4
  have hL0 : h.get? h.objs.size = none := Heap.get?_none_of_le (Nat.le_refl _)
  refine wpAny_execs_cons (asg_ (Call_ (ggl_ D B g_read ?_)))
  refine cw_ B k_read (spliced_more (gln_ D (v := .ref la) (by walk_at "lk") (spliced_more (gln_ D (v := .ref ea) (by walk_at "lk") (spliced_none ⟨D.base B, ca_ ?_⟩)))))
  obtain ⟨oL, esL, epL, hLg, hLd, rL⟩ := id D.F.ns
  refine read_C (hb := h) (F1 := h.objs.size) (o1 := oL) (bs := bs) (es := es) B D.F.keep D.base_lt (by show A.depth + 1 + 2 < _; omega) hA (by show A.units + 3 + 67 < cLine; omega) (Around.frames_deeper hfr) rfl (by decide : ScopeKind.function ≠ ScopeKind.module) hLg (fun vs q => by rw [hLd] at q; cases q) hL0
    (D.get (.tail _ (.head _))) (D.N _ (.tail _ (.head _))).2.1 hbI D.get0 (D.N _ (.head _)).2.1 heS hel hne (by omega) hEE fun h28 tk28 rr rv rn hT28 hk28 hs28 hr28 hrI hrn => ?_
  replace D := D.new1 hk28 (fun o e => by rw [hLg] at e; cases e; exact hs28) hr28 hrn
  refine gsn_ D fun h29 tk29 hT29 D => ?_
  refine wpAny_execs_cons (asg_ (Call_ (ggl_ D B g_read ?_)))
  refine cw_ B k_read (spliced_more ?_)
  refine lc_ (cl := []) (closureFor_none (by decide)) rfl (by decide) (gln_ D (v := .ref la) (by walk_at "lk") ?_)
  refine bli_ (f := fun x => 1 - x) hA (by decide) rfl rfl (lst_is (D.get (.tail _ (.tail _ (.head _))))) hbI (by rw [List.length_map]; omega) ?_ ?_
  · intro C m hh t cs z u Q Db hm kq
    exact wpAny_BinOp (ci_ fun u2 tk2 hT2 => gln_ Db (v := .int z u) hm (sub_ fun u3 tk3 hT3 => kq _ _ (by omega)))
  intro C ta hh tk30 tv n30 m30 hT30 htI Db
  have hcI : IntsAre tv ((bs.map (!·)).map bitN) := by
    rw [List.map_map] at htI ⊢
    rw [show (bitN ∘ fun x => !x) = (fun x => 1 - x) ∘ bitN from funext fun b => (bit_not b).symm]
    exact htI
  refine pv_ D Db fun h31 D => ?_
  refine spliced_more (gln_ D (v := .ref ea) (by walk_at "lk") (spliced_none ⟨D.base B, ca_ ?_⟩))
  clear hLd rL
  obtain ⟨oL2, esL2, epL2, hLg2, hLd2, rL2⟩ := id D.F.ns
  refine read_C (hb := h) (F1 := h.objs.size) (o1 := oL2) (bs := bs.map (!·)) (es := es) B D.F.keep D.base_lt (by show A.depth + 1 + 2 < _; omega) hA (by show A.units + 3 + 67 < cLine; omega) (Around.frames_deeper hfr) rfl (by decide : ScopeKind.function ≠ ScopeKind.module) hLg2 (fun vs q => by rw [hLd2] at q; cases q) hL0
    (D.get (.head _)) (D.N _ (.head _)).2.1 hcI (D.get (.tail _ (.tail _ (.head _)))) (D.N _ (.tail _ (.tail _ (.head _)))).2.1 heS (by rw [List.length_map]; exact hel) (by simpa using hne) (by rw [List.length_map]; omega) hEE fun h32 tk32 tr twv tn hT32 hk32 hs32 hr32 htwI htn => ?_
  replace D := D.new1 hk32 (fun o e => by rw [hLg2] at e; cases e; exact hs32) hr32 htn
  refine gsn_ D fun h33 tk33 hT33 D => ?_
  have hne2 : ∀ l : List Bool, (rowsOf l).map Int.ofNat ≠ [] := fun l q => goR_ne l 2 (List.map_eq_nil_iff.mp q)
  refine wpAny_execs_cons (wpAny_If ?_)
  refine isTrue_or (wpAny_isTrue_Compare1 (gln_ D (v := .ref rr) (by walk_at "lk") (List_ (spliced_none (nl_ D (Nat.zero_le _) fun h34 r34 K34 _ D => ?_)))))
  refine eq_intsK (lst_is (D.get (.tail _ (.tail _ (.tail _ (.head _)))))) hrI (lst_is (n := 0) D.get0) .nil (by show A.units + 3 + 64 < cLine; omega) (wpAny_truthy_bool ?_)
  rw [decide_eq_false (hne2 _), if_neg (by decide)]
  refine isTrue_or (wpAny_isTrue_Compare1 (gln_ D (v := .ref tr) (by walk_at "lk") (List_ (spliced_none (nl_ D (Nat.zero_le _) fun h35 r35 K35 _ D => ?_)))))
  refine eq_intsK (lst_is (D.get (.tail _ (.tail _ (.head _))))) htwI (lst_is (n := 0) D.get0) .nil (by show A.units + 3 + 64 < cLine; omega) (wpAny_truthy_bool ?_)
  rw [decide_eq_false (hne2 _), if_neg (by decide)]
  refine isTrue_or_nil ?_
  rw [if_neg (by decide)]
  refine xn_ ?_
  refine wpAny_execs_cons (asg_ (List_ (spliced_more (List_ (spliced_more (ci_ fun u36 tk36 hT36 => spliced_none (nl_ D (Nat.le_of_ble_eq_true rfl) fun h37 b0 K37 _ D => ?_)))))))
  refine spliced_more (List_ (spliced_more (ci_ fun u38 tk38 hT38 => spliced_none (nl_ D (Nat.le_of_ble_eq_true rfl) fun h39 b1 K39 _ D => ?_))))
  refine spliced_none (nl_ D (Nat.le_of_ble_eq_true rfl) fun h40 al K40 _ D => gsn_ D fun h41 tk41 hT41 D => ?_)
  replace D := D.sub ((((((((((List.Sublist.refl [_]).cons _).cons_cons _).cons _).cons_cons _).cons _).cons _).cons_cons _).cons_cons _).cons_cons _)
  replace D := D.perm ((List.perm_append_comm (l₁ := [_, _, _]) (l₂ := [_, _])).cons _)
  have hrI' := hrI
  refine wpAny_execs_cons (wpAny_For (gln_ D (v := .ref la) (by walk_at "lk") ?_))
  refine fl_ hA (fun i m cs => ∃ al av an garb, cs = (al, lstN av an) :: (tr, lstN twv tn) :: (rr, lstN rv rn) :: (la, lstN lv nl) :: garb ∧ PL (ansL (bs.take i)) av garb ∧ m "answers" = some (.ref al) ∧ m "rows" = some (.ref rr) ∧ m "twins" = some (.ref tr))
    D (lst_is (D.get (.tail _ (.tail _ (.tail _ (.head _)))))) (.inr ⟨lstN lv nl, ?_⟩) (D.N _ (.tail _ (.tail _ (.tail _ (.head _))))).2.1 ⟨al, _, 0, _, rfl, ?_, by walk_at "lk", by walk_at "lk", by walk_at "lk"⟩ ?_ ?_
  · rintro i m cs ⟨al, av, an, garb, rfl, _⟩
    exact .tail _ (.tail _ (.tail _ (.head _)))
  · have p1 : PL [[0]] [.ref b0] [(b1, lst [.int 1 u38]), (b0, lst [.int 0 u36])] := PL.nil.snoc (n := 0) (.tail _ (.head _)) (.cons 0 u36 .nil)
    exact p1.snoc (n := 0) (.head _) (.cons 1 u38 .nil)
  · rintro I o₁ i v m₁ cs₁ h42 tk42 hT42 hv ⟨al, av, an, garb, rfl, hP, f1, f2, f3⟩ D
    obtain ⟨z, u46, rfl, hz⟩ := hbI.at i v (by simpa using hv)
    rw [List.getElem?_map] at hz
    obtain ⟨b, hb1, rfl⟩ := Option.map_eq_some_iff.mp hz
    have htk : bs.take (i + 1) = bs.take i ++ [b] := by rw [List.take_add_one, hb1]; rfl
    have htl : (bs.take i).length ≤ 8 := by rw [List.length_take]; omega
    have hit : ∀ a ∈ ansL (bs.take i), a.length ≤ 1000 ∧ a ≠ [] := by
      intro a ha
      have := ansL_item _ a ha
      exact ⟨by omega, fun q => by rw [q] at this; simp at this; omega⟩
    refine wpAny_execs_cons (wpAny_If (wpAny_isTrue_Compare1 (gln_ D (v := .int (bitN b) u46) (by walk_at "lk") (ci_ fun u47 tk47 hT47 => PyProof.Rows.eq_int (wpAny_truthy_bool ?_)))))
    cases b with
    | false =>
      rw [show (bitN false == 0) = true from rfl, if_pos rfl]
      refine wpAny_execs_cons (lca_ rfl (closureFor_none (by decide)) rfl (by decide) (gln_ D (v := .ref al) (by walk_at "lk") ?_))
      refine bl2_ (b := false) (anss := ansL (bs.take i)) hA (by decide) rfl rfl rfl (D.get (.tail _ (.head _))) (hP.al D fun p hp => .tail _ (.tail _ (.tail _ (.tail _ (.tail _ hp))))) hit (ansL_len _ htl) ?_ ?_
      · intro C m hh t cs s u r ws n one Q Db h1 h2 hr hI1 hn kq
        obtain ⟨ul, hul⟩ := ints_last hI1 hn
        refine wpAny_tests_one (wpAny_isTrue_Compare1 ?_)
        exact gln_ Db (v := .int s u) h2 (Subscript_ (gln_ Db (v := .ref r) h1 (wpAny_UnaryOp (ci_ fun u43 tk43 hT43 => PyProof.Rows.neg_int (itemN_ (Db.F.keep _ _ hr) hul (PyProof.Rows.le_int (wpAny_truthy_bool (kq _ (Nat.le_succ_of_le hT43)))))))))
      · intro C a hh tk44 vs k44 cs₂ m₂ hT44 hP2 Db
        refine pa_ D Db fun h45 tk45 hT45 D => ?_
        replace D := D.sub ((List.Sublist.refl (_ :: cs₂)).append ((((((List.nil_sublist garb).cons_cons _).cons_cons _).cons_cons _).cons _).cons_cons _))
        replace D := D.perm (((List.perm_middle (l₁ := [_, _, _])).symm.cons _).trans (List.perm_append_comm (l₁ := [_, _, _, _]) (l₂ := _ :: cs₂)))
        exact xn_ (xn_ ⟨h45, tk45, _, _, rfl, D, a, vs, k44, cs₂, rfl, by rw [htk, ansL_snoc]; exact hP2, by walk_at "lk", by walk_at "lk", by walk_at "lk"⟩)
    | true =>
      rw [show (bitN true == 0) = false from rfl, if_neg (by decide)]
      refine wpAny_execs_cons (lca_ rfl (closureFor_none (by decide)) rfl (by decide) (gln_ D (v := .ref al) (by walk_at "lk") ?_))
      refine bl2_ (b := true) (anss := ansL (bs.take i)) hA (by decide) rfl rfl rfl (D.get (.tail _ (.head _))) (hP.al D fun p hp => .tail _ (.tail _ (.tail _ (.tail _ (.tail _ hp))))) hit (ansL_len _ htl) ?_ ?_
      · intro C m hh t cs s u r ws n one Q Db h1 h2 hr hI1 hn kq
        obtain ⟨ul, hul⟩ := ints_last hI1 hn
        refine wpAny_tests_one (wpAny_isTrue_Compare1 ?_)
        exact Subscript_ (gln_ Db (v := .ref r) h1 (wpAny_UnaryOp (ci_ fun u43 tk43 hT43 => PyProof.Rows.neg_int (itemN_ (Db.F.keep _ _ hr) hul (gln_ Db (v := .int s u) h2 (PyProof.Rows.le_int (wpAny_truthy_bool (kq _ (Nat.le_succ_of_le hT43)))))))))
      · intro C a hh tk44 vs k44 cs₂ m₂ hT44 hP2 Db
        refine pa_ D Db fun h45 tk45 hT45 D => ?_
        replace D := D.sub ((List.Sublist.refl (_ :: cs₂)).append ((((((List.nil_sublist garb).cons_cons _).cons_cons _).cons_cons _).cons _).cons_cons _))
        replace D := D.perm (((List.perm_middle (l₁ := [_, _, _])).symm.cons _).trans (List.perm_append_comm (l₁ := [_, _, _, _]) (l₂ := _ :: cs₂)))
        exact xn_ (xn_ ⟨h45, tk45, _, _, rfl, D, a, vs, k44, cs₂, rfl, by rw [htk, ansL_snoc]; exact hP2, by walk_at "lk", by walk_at "lk", by walk_at "lk"⟩)
  · rintro h42 tk42 m₁ cs₁ hT42 ⟨al, av, an, garb, rfl, hP, f1, f2, f3⟩ D
    rw [show lv.toArray.size = bs.length by rw [List.size_toArray, hbI.length, List.length_map], List.take_length] at hP
    have hAl := ansL_len bs hb8
    have hav := hP.1
    have hAn : ∀ a ∈ ansL bs, a ≠ [] := fun a ha q => by
      have := ansL_item _ a ha
      rw [q] at this
      simp at this
      omega
    dsimp only
    refine wpAny_execs_cons (asg_ (Call_ (gbn_ D B n_len b_len (by decide) (callWith_method1 (first := []) (spliced_more (gln_ D (v := .ref al) (by walk_at "lk") (spliced_none (len_list_ D.get0 (by omega) fun u43 tk43 hT43 => gsn_ D fun h44 tk44 hT44 D => ?_))))))))
    refine wpAny_execs_cons (asg_ (Call_ (gbn_ D B n_len b_len (by decide) (callWith_method1 (first := []) (spliced_more ?_)))))
    refine lc_ (cl := []) (closureFor_none (by decide)) rfl (by decide) (gln_ D (v := .ref al) (by walk_at "lk") ?_)
    refine blf_ (anss := ansL bs) (p := noP) hA (by decide) rfl rfl D.get0 (hP.al D fun p hp => .tail _ (.tail _ (.tail _ (.tail _ hp)))) hAl (by decide) ?_ ?_
    · intro C m hh t cs r ws n one Q Db h1 hr hI1 hin kq
      obtain ⟨uh, huh⟩ := ints_head hI1 (hAn _ hin)
      refine wpAny_tests_one (wpAny_isTrue_Compare1 ?_)
      exact Subscript_ (gln_ Db (v := .ref r) h1 (ci_ fun u45 tk45 hT45 => item_ (Db.F.keep _ _ hr) (by decide) (by decide) huh (ci_ fun u46 tk46 hT46 => PyProof.Rows.eq_int (wpAny_truthy_bool (kq _ (by omega))))))
    intro C na hh tk47 nv k47 m47 hT47 hnl Db
    have hnl2 : nv.length ≤ 1000 := by rw [hnl]; exact Nat.le_trans (List.length_filter_le _ _) hAl
    refine pv_ D Db fun h48 D => ?_
    refine spliced_none (len_list_ (D.get (.head _)) (by omega) fun u49 tk49 hT49 => gsn_ D fun h50 tk50 hT50 D => ?_)
    refine wpAny_execs_cons (asg_ (Call_ (gbn_ D B n_len b_len (by decide) (callWith_method1 (first := []) (spliced_more ?_)))))
    refine lc_ (cl := []) (closureFor_none (by decide)) rfl (by decide) (gln_ D (v := .ref al) (by walk_at "lk") ?_)
    refine blf_ (anss := ansL bs) (p := tornP) hA (by decide) rfl rfl (D.get (.tail _ (.head _))) (hP.al D fun p hp => .tail _ (.tail _ (.tail _ (.tail _ (.tail _ hp))))) hAl (by decide) ?_ ?_
    · intro C m hh t cs r ws n one Q Db h1 hr hI1 hin kq
      obtain ⟨uh, huh⟩ := ints_head hI1 (hAn _ hin)
      obtain ⟨ul, hul⟩ := ints_last hI1 (hAn _ hin)
      refine wpAny_tests_one (isTrue_and (wpAny_isTrue_Compare1 ?_))
      refine Subscript_ (gln_ Db (v := .ref r) h1 (ci_ fun u45 tk45 hT45 => item_ (Db.F.keep _ _ hr) (by decide) (by decide) huh (ci_ fun u46 tk46 hT46 => PyProof.Rows.eq_int (wpAny_truthy_bool ?_))))
      cases hn : (one.head?.getD 1 == 0) with
      | false =>
        rw [if_neg (by decide)]
        rw [show tornP one = false by simp [tornP, noP, hn]] at kq
        exact kq _ (by omega)
      | true =>
        rw [if_pos rfl]
        refine isTrue_and (wpAny_isTrue_Compare1 ?_)
        refine Subscript_ (gln_ Db (v := .ref r) h1 (wpAny_UnaryOp (ci_ fun u47 tk47 hT47 => PyProof.Rows.neg_int (itemN_ (Db.F.keep _ _ hr) hul (ci_ fun u48 tk48 hT48 => PyProof.Rows.eq_int (wpAny_truthy_bool ?_))))))
        rw [show tornP one = (one.getLast?.getD 0 == 1) by simp only [tornP, noP, hn, Bool.true_and]] at kq
        cases hl : (one.getLast?.getD 0 == 1) with
        | false =>
          rw [if_neg (by decide)]
          rw [hl] at kq
          exact kq _ (by dsimp only at hT48; omega)
        | true =>
          rw [if_pos rfl]
          rw [hl] at kq
          exact isTrue_and_nil (kq _ (by dsimp only at hT48; omega))
    intro C ta2 hh tk51 tv2 k51 m51 hT51 htl Db
    have htl2 : tv2.length ≤ 1000 := by rw [htl]; exact Nat.le_trans (List.length_filter_le _ _) hAl
    refine pv_ D Db fun h52 D => ?_
    refine spliced_none (len_list_ (D.get (.head _)) (by omega) fun u53 tk53 hT53 => gsn_ D fun h54 tk54 hT54 D => ?_)
    replace D := D.sub ((((((List.nil_sublist _).cons_cons _).cons_cons _).cons _).cons _).cons _)
    obtain ⟨F1, F2, F3, F4⟩ := law_facts hb4 hb8
    rw [← hav, ← hnl] at F1
    rw [← hav] at F3
    rw [← hnl, ← htl] at F4
    have hrl : (rowsOf bs).length ≤ 9 := by have := rowI_len bs; rw [rowI, List.length_map] at this; omega
    have hrvl := hrI.length
    have htvl := htwI.length
    have htl9 : (rowsOf (bs.map (!·))).length ≤ 9 := by
      have := rowI_len (bs.map (!·))
      rw [rowI, List.length_map, List.length_map] at this
      omega
    rw [List.length_map] at hrvl htvl
    have hbR := rowI_bits bs hb8
    have hbT := rowI_bits (bs.map (!·)) (by rw [List.length_map]; exact hb8)
    refine wpAny_execs_cons (wpAny_If (wpAny_isTrue_Compare1 (Call_ (ggl_ D B g_fold ?_))))
    refine cw_ B k_fold (spliced_more (Subscript_ (gln_ D (v := .ref rr) (by walk_at "lk") (wpAny_Slice (ep0_ (ep0_ (ep1_ (wpAny_UnaryOp (ci_ fun u55 tk55 hT55 => PyProof.Rows.neg_int ?_)))))))))
    refine sl_ D (lst_is (D.get (.tail _ (.head _)))) .none .none (.int _ _) (by decide) (by rw [List.size_toArray]; omega) fun h56 r56 D => ?_
    rw [krv_pick] at D
    refine spliced_none ⟨D.base B, ca_ ?_⟩
    have hrv := IntsAre.reverse hrI
    refine fold_C (vs := rv.reverse) (D.base B) (by show A.depth + 1 + 1 < _; omega) hA (lst_is (n := 0) D.get0) hrv (fun x hx => hbR x (List.mem_reverse.mp hx)) fun h57 tk57 r57 t1 t2 K57 hr57 hn57 => ?_
    replace D := D.new K57 hr57 hn57
    rw [show foldL ((rowsOf bs).map Int.ofNat).reverse = (((av.length : Nat) : Int), ((nv.length : Nat) : Int)) from F1] at D
    refine List_ (spliced_more (gln_ D (v := .int (av.length : Nat) u43) (by walk_at "lk") (spliced_more (gln_ D (v := .int (nv.length : Nat) u49) (by walk_at "lk") (spliced_none (nl_ D (Nat.le_of_ble_eq_true rfl) fun h58 r58 K58 _ D => ?_))))))
    refine ne_intsK (lst_is (n := 0) (D.get (.tail _ (.head _)))) (.cons _ _ (.cons _ _ .nil)) (lst_is (n := 0) D.get0) (.cons _ _ (.cons _ _ .nil)) (by show A.units + 3 + 64 < cLine; omega) (wpAny_truthy_bool ?_)
    rw [if_neg (by simp)]
    refine xn_ ?_
    replace D := D.sub ((((List.Sublist.refl _).cons _).cons _).cons _)
    refine wpAny_execs_cons (wpAny_If (wpAny_isTrue_Compare1 (Call_ (ggl_ D B g_fold ?_))))
    refine cw_ B k_fold (spliced_more (wpAny_BinOp (wpAny_BinOp (Subscript_ (gln_ D (v := .ref rr) (by walk_at "lk") (wpAny_Slice (ep0_ (ep0_ (ep1_ (wpAny_UnaryOp (ci_ fun u59 tk59 hT59 => PyProof.Rows.neg_int ?_)))))))))))
    refine sl_ D (lst_is (D.get (.tail _ (.head _)))) .none .none (.int _ _) (by decide) (by rw [List.size_toArray]; omega) fun h60 r60 D => ?_
    rw [krv_pick] at D
    refine List_ (spliced_more (ci_ fun u61 tk61 hT61 => spliced_none (nl_ D (Nat.le_of_ble_eq_true rfl) fun h62 r62 K62 _ D => ?_)))
    refine addl_ (vs := rv.reverse) D (n := 0) (D.get (.tail _ (.head _))) (n' := 0) D.get0 (by rw [List.length_reverse, List.length_singleton]; omega) fun h63 r63 D => ?_
    refine gln_ D (v := .ref tr) (by walk_at "lk") ?_
    refine addl_ D (n := 0) D.get0 (D.get (.tail _ (.tail _ (.tail _ (.head _))))) (by rw [List.length_append, List.length_reverse, List.length_singleton]; omega) fun h64 r64 D => ?_
    refine spliced_none ⟨D.base B, ca_ ?_⟩
    have hrv2 := (hrv.append (.cons 1 u61 .nil)).append htwI
    refine fold_C (D.base B) (by show A.depth + 1 + 1 < _; omega) hA (lst_is (n := 0) D.get0) hrv2 ?_ fun h65 tk65 r65 t3 t4 K65 hr65 hn65 => ?_
    · intro x hx
      rcases List.mem_append.mp hx with hx | hx
      · rcases List.mem_append.mp hx with hx | hx
        · exact hbR x (List.mem_reverse.mp hx)
        · rw [List.mem_singleton.mp hx]; decide
      · exact hbT x hx
    replace D := D.new K65 hr65 hn65
    rw [show foldL (((rowsOf bs).map Int.ofNat).reverse ++ [1] ++ (rowsOf (bs.map (!·))).map Int.ofNat) = ((0 : Int), (1 : Int)) from F2] at D
    refine List_ (spliced_more (ci_ fun u66 tk66 hT66 => spliced_more (ci_ fun u67 tk67 hT67 => spliced_none (nl_ D (Nat.le_of_ble_eq_true rfl) fun h68 r68 K68 _ D => ?_))))
    refine ne_intsK (lst_is (n := 0) (D.get (.tail _ (.head _)))) (.cons _ _ (.cons _ _ .nil)) (lst_is (n := 0) D.get0) (.cons _ _ (.cons _ _ .nil)) (by show A.units + 3 + 64 < cLine; omega) (wpAny_truthy_bool ?_)
    rw [if_neg (by simp)]
    refine xn_ ?_
    replace D := D.sub ((((((List.Sublist.refl _).cons _).cons _).cons _).cons _).cons _)
    refine wpAny_execs_cons (Assign_Tuple (Call_ (ggl_ D B g_fold ?_)))
    refine cw_ B k_fold (spliced_more (gln_ D (v := .ref rr) (by walk_at "lk") (spliced_none ⟨D.base B, ca_ ?_⟩)))
    refine fold_C (D.base B) (by show A.depth + 1 + 1 < _; omega) hA (lst_is (D.get (.tail _ (.tail _ (.head _))))) hrI hbR fun h69 tk69 r69 t5 t6 K69 hr69 hn69 => ?_
    replace D := D.new K69 hr69 hn69
    rw [show (foldL ((rowsOf bs).map Int.ofNat)).1 = ((av.length : Nat) : Int) from F3] at D
    rw [F3] at F4
    generalize hund : (foldL (rowI bs)).2 = und at F4
    rw [show (foldL ((rowsOf bs).map Int.ofNat)).2 = und from hund] at D
    refine unpack2_ hA D (n := 0) D.get0 fun h70 tk70 hT70 D => ?_
    refine wpAny_execs_cons (wpAny_Return_some (BoolOp_and (wpAny_Compare1 (gln_ D (v := .int (av.length : Nat) t5) (by walk_at "lk") (gln_ D (v := .int (av.length : Nat) u43) (by walk_at "lk") (PyProof.Rows.eq_int (wpAny_truthy_bool ?_)))))))
    rw [show (((av.length : Nat) : Int) == ((av.length : Nat) : Int)) = true from beq_self_eq_true _, if_pos rfl]
    refine BoolOp_one (wpAny_Compare1 (Call_ (ggl_ D B g_sub ?_)))
    refine cw_ B k_sub (spliced_more (Call_ (ggl_ D B g_mul ?_)))
    refine cw_ B k_mul (spliced_more (gln_ D (v := .int und t6) (by walk_at "lk") (spliced_more (gln_ D (v := .int (nv.length : Nat) u49) (by walk_at "lk") (spliced_none ⟨D.base B, ca_ ?_⟩)))))
    refine mul_C' (D.base B) (by show A.depth + 1 < _; omega) (IntMulOk.of_right (bits_small _ (by omega))) fun h71 tk71 u71 K71 => ?_
    replace D := D.keep K71
    refine spliced_more (Call_ (ggl_ D B g_mul ?_))
    refine cw_ B k_mul (spliced_more (gln_ D (v := .int (av.length : Nat) t5) (by walk_at "lk") (spliced_more (gln_ D (v := .int (tv2.length : Nat) u53) (by walk_at "lk") (spliced_none ⟨D.base B, ca_ ?_⟩)))))
    refine mul_C' (D.base B) (by show A.depth + 1 < _; omega) (IntMulOk.of_right (bits_small _ (by omega))) fun h72 tk72 u72 K72 => ?_
    replace D := D.keep K72
    refine spliced_none ⟨D.base B, ca_ ?_⟩
    refine sub_C (D.base B) (by show A.depth + 1 < _; omega) fun h73 tk73 u73 K73 => ?_
    replace D := D.keep K73
    refine ci_ fun u74 tk74 hT74 => PyProof.Rows.eq_int ?_
    rw [F4]
    exact k _ _ D.F.keep
end
end Mine

end
open PySem PySem.W PyProof.Rows PySem.Calls
namespace Mine
theorem allBare_gN : ∀ n : Nat, AllBare (gN #[] n)
  | 0 => .empty
  | n + 1 => (allBare_gN n).push rfl
end Mine
set_option maxRecDepth 100000 in
set_option maxHeartbeats 8000000 in
theorem PySem.Challenge.cw_ta0006_01_holds : PySem.Challenge.rw_ta0006_01.Holds := by
  refine Mine.hd ?_
  k_fill
  intro w s₀ s₁ mg mb G Y fa o pm cd doc dV kV ho hd hcd hD hmg hg args vals as hpre hlay hrd hwl hlo
  have KX := kIn_of Y
  refine Ground.open G ?_
  intro T B D TE TW
  try (refine guard_noD D (by decide +kernel) ?_; clear D)
  have hfa : fa = 119 := by
    have e := mg_of (K := Mine.KK w) (n := "law") KX T.g (v := .ref 119) (by kernel_rfl)
    have e2 : mg "law" = some (.ref fa) := hmg
    rw [e] at e2
    cases e2
    rfl
  have TR := topRead_of T
  clear hmg ho hd hcd hD B TE TW T
  wrow_args hpre hlay hrd hwl hlo
  rename_i ns _ _ _ _ _ _ _ sl xs _ hL _ _ _ hI _ hc _
  obtain ⟨h, g, d, t, os⟩ := s₁
  dsimp only at hg
  subst hg
  subst hfa
  refine Mine.ca_ ?_
  refine Mine.law_C ⟨KX, _, _, _, _, TR⟩ (by decide +kernel) rfl (by decide +kernel) rfl hL hI (by omega) fun h' tk K => ?_
  have hpost : PySem.Challenge.rw_ta0006_01.row.toRowW.claim.post [ofPy (PyData.list (List.map PyData.int ns))] (WData.bool true) [ofPy (PyData.list (List.map PyData.int ns))] = true := by
    first | with_unfolding_all rfl | kernel_rfl | (refine postW_of (X := true) ?_ ?_ rfl <;> first | rfl | with_unfolding_all rfl | kernel_rfl | simp [PySem.Challenge.rw_ta0006_01, OpenLaw.row])
  exact ⟨.inl ⟨.bool true, .bool true, [], rfl, fun _ => rfl, .bool true, hpost, fun _ => ⟨.nil, fun _ h => by cases h⟩⟩, .of_keep K, rfl, Mine.allBare_gN 4⟩

