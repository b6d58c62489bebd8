import PyProof.Rows.All
import Wide.All
import OpenK.AllK
import Wide.FinOn
import PySem.Challenge.RW_dn0136_01
set_option maxRecDepth 100000
set_option Elab.async false
set_option linter.unusedVariables false
namespace Mine
open PySem PySem.W PyProof.Rows PySem.Spec PySem.Calls

/-- a value without its token -/
inductive AV where
  | int (i : Int)
  | val (v : Value)
def AV.Is : AV → Value → Prop
  | .int i, v => ∃ t, v = .int i t
  | .val w, v => v = w
def AllIs : List AV → List Value → Prop
  | [], [] => True
  | a :: r, v :: s => a.Is v ∧ AllIs r s
  | _, _ => False
inductive AO where
  | list (vs : List AV)
  | tup (vs : List AV)
  | cell (v : Option AV)
  | code (q : Str)
  | obj (o : Obj)
def AO.Is : AO → Obj → Prop
  | .list vs, o => ∃ ws n, o = { cls := .type "list", data := .seq ws.toArray n } ∧ AllIs vs ws
  | .tup vs, o => ∃ ws n, o = { cls := .type "tuple", data := .seq ws.toArray n } ∧ AllIs vs ws
  | .cell none, o => o.data = .cell none
  | .cell (some v), o => ∃ w, o.data = .cell (some w) ∧ v.Is w
  | .code q, o => ∃ vs t, o.data = .fields vs ∧ vs[1]? = some (.str q t)
  | .obj o', o => o = o'
abbrev AH := List (Addr × AO)
/-- fewer objects, in another order -/
def Sub (H' H : AH) : Prop := (∀ p ∈ H', p ∈ H) ∧ ((H.map (·.1)).Nodup → (H'.map (·.1)).Nodup)
theorem Sub.refl (H : AH) : Sub H H := ⟨fun _ h => h, fun h => h⟩
theorem Sub.of {H' H : AH} (h : H'.Sublist H) : Sub H' H := ⟨fun _ q => h.subset q, fun hn => hn.sublist (h.map _)⟩
theorem Sub.perm {H' H : AH} (h : H.Perm H') : Sub H' H := ⟨fun _ q => h.symm.subset q, fun hn => ((h.map _).nodup_iff).mp hn⟩
theorem Sub.tail {p : Addr × AO} {H : AH} : Sub H (p :: H) := .of (List.sublist_cons_self _ _)
theorem Sub.mem {H' H : AH} (h : Sub H' H) : ∀ p ∈ H', p ∈ H := h.1
theorem Sub.nodup {H' H : AH} (h : Sub H' H) (hn : (H.map (·.1)).Nodup) : (H'.map (·.1)).Nodup := h.2 hn
theorem Sub.trans {H₁ H₂ H₃ : AH} (h : Sub H₁ H₂) (k : Sub H₂ H₃) : Sub H₁ H₃ := ⟨fun p q => k.1 p (h.1 p q), fun n => h.2 (k.2 n)⟩
theorem Sub.app {H₁ H₂ K₁ K₂ : AH} (h : Sub H₁ H₂) (k : Sub K₁ K₂) : Sub (H₁ ++ K₁) (H₂ ++ K₂) := by
  refine ⟨fun p q => ?_, fun n => ?_⟩
  · rcases List.mem_append.mp q with q | q
    · exact List.mem_append_left _ (h.1 p q)
    · exact List.mem_append_right _ (k.1 p q)
  · rw [List.map_append, List.nodup_append] at n ⊢
    refine ⟨h.2 n.1, k.2 n.2.1, fun a ha b hb => ?_⟩
    obtain ⟨p, hp, e1⟩ := List.mem_map.mp ha
    obtain ⟨q, hq, e2⟩ := List.mem_map.mp hb
    exact n.2.2 a (List.mem_map.mpr ⟨p, h.1 p hp, e1⟩) b (List.mem_map.mpr ⟨q, k.1 q hq, e2⟩)
theorem Sub.cons {H₁ H₂ : AH} {p : Addr × AO} (h : Sub H₁ H₂) : Sub (p :: H₁) (p :: H₂) := Sub.app (H₁ := [p]) (H₂ := [p]) (.refl _) h
/-- what a call has made, moved behind the front -/
theorem Sub.front {p : Addr × AO} {T H : AH} : Sub (T ++ p :: H) (p :: (T ++ H)) := .perm List.perm_middle.symm
structure AS where
  m : List (Str × AV)
  H : AH
def AS.set (σ : AS) (x : Str) (v : AV) : AS := { σ with m := (x, v) :: σ.m }

structure GX where
  prog : Program
  w : World
  K : Frag
  p : Program
  loose : List Str
  mean : ExcName → Option Value
  mg : Str → Option Value
  mb : Str → Option Value
structure FX where
  dp : Nat
  un : Nat
  gd : Option (List Code)
  cn : Str
  cs : Scope
  L : Addr
  a : Addr
  ccd : Value
  cl : List (Str × Addr)
  outer : List Env
  A₀ : Around
  base : Heap
  h₀ : Heap
def FX.env (X : FX) : Env := envX X.cn X.cs X.L X.a X.ccd X.cl
def FX.A (X : FX) : Around := ktrTop X.dp X.un X.gd X.cn X.cs X.L X.a X.ccd X.cl X.outer
abbrev GX.M (G : GX) : Model := model G.prog G.w
structure FX.Ok (G : GX) (X : FX) : Prop where
  below : Below X.A₀ X.base X.outer X.h₀
  kin : G.K.In X.h₀
  top : Top G.p G.loose G.mean G.mg G.mb X.h₀
  fn : X.cs.kind = .function

structure At (X : FX) (σ : AS) (h : Heap) : Prop where
  fr : ∃ m, Fr X.h₀ X.L h m ∧ ∀ x v, σ.m.lookup x = some v → ∃ w, m x = some w ∧ v.Is w
  hp : ∀ p ∈ σ.H, ∃ o, h.get? p.1 = some o ∧ p.2.Is o ∧ p.1 ≠ X.L ∧ X.h₀.get? p.1 = none
  nd : (σ.H.map (·.1)).Nodup

theorem AO.Is.notFreed {a : AO} {o : Obj} (h : a.Is o) (hg : ∃ hp : Heap, ∃ b, hp.get? b = some o) : o.isFreed = false := by
  obtain ⟨hp, b, e⟩ := hg
  unfold Heap.get? at e
  split at e
  · cases e
  · obtain ⟨c, d, dt, sl⟩ := o
    cases dt <;> first | rfl | (rename_i hne; exact absurd e (hne _ _ _))

/-- the ledger of the abstract heap -/
theorem At.news {X : FX} {σ : AS} {h : Heap} (a : At X σ h) : ∃ news, News X.h₀ X.L h news ∧ news.map (·.1) = σ.H.map (·.1) ∧ (∀ p ∈ σ.H, ∃ o, (p.1, o) ∈ news ∧ p.2.Is o) ∧ (∀ q ∈ news, ∃ p ∈ σ.H, p.1 = q.1) := by
  have key : ∀ H : AH, (∀ p ∈ H, ∃ o, h.get? p.1 = some o ∧ p.2.Is o ∧ p.1 ≠ X.L ∧ X.h₀.get? p.1 = none) →
      ∃ news, News X.h₀ X.L h news ∧ news.map (·.1) = H.map (·.1) ∧ (∀ p ∈ H, ∃ o, (p.1, o) ∈ news ∧ p.2.Is o) ∧ (∀ q ∈ news, ∃ p ∈ H, p.1 = q.1) := by
    intro H
    induction H with
    | nil => intro _; exact ⟨[], News.nil, rfl, (fun p hp => nomatch hp), (fun p hp => nomatch hp)⟩
    | cons p r ih =>
      intro hh
      obtain ⟨news, N, e, k, k2⟩ := ih fun q hq => hh q (.tail _ hq)
      obtain ⟨o, h1, h2, h3, h4⟩ := hh p (.head _)
      refine ⟨(p.1, o) :: news, ?_, by simp [e], ?_, ?_⟩
      · intro q hq
        rcases List.mem_cons.mp hq with rfl | hq
        · exact ⟨h1, h3, h4⟩
        · exact N q hq
      · intro q hq
        rcases List.mem_cons.mp hq with rfl | hq
        · exact ⟨o, .head _, h2⟩
        · obtain ⟨o', m', i'⟩ := k q hq
          exact ⟨o', .tail _ m', i'⟩
      · intro q hq
        rcases List.mem_cons.mp hq with rfl | hq
        · exact ⟨p, .head _, rfl⟩
        · obtain ⟨p', m', i'⟩ := k2 q hq
          exact ⟨p', .tail _ m', i'⟩
  exact key σ.H a.hp

theorem AllIs.length : ∀ {vs : List AV} {ws : List Value}, AllIs vs ws → ws.length = vs.length
  | [], [], _ => rfl
  | _ :: _, _ :: _, h => by simp [AllIs.length h.2]
theorem AllIs.get : ∀ {vs : List AV} {ws : List Value} {i : Nat} {v : AV}, AllIs vs ws → vs[i]? = some v → ∃ w, ws[i]? = some w ∧ v.Is w
  | _ :: _, _ :: _, 0, v, h, e => by cases e; exact ⟨_, rfl, h.1⟩
  | _ :: _, _ :: _, i + 1, v, h, e => by
    obtain ⟨w, e', k⟩ := AllIs.get (i := i) (v := v) h.2 (by simpa using e)
    exact ⟨w, by simpa using e', k⟩
  | [], _, _, _, _, e => by cases e
theorem AllIs.get' : ∀ {vs : List AV} {ws : List Value} {i : Nat} {w : Value}, AllIs vs ws → ws[i]? = some w → ∃ v, vs[i]? = some v ∧ v.Is w
  | _ :: _, _ :: _, 0, v, h, e => by cases e; exact ⟨_, rfl, h.1⟩
  | _ :: _, _ :: _, i + 1, v, h, e => by
    obtain ⟨w, e', k⟩ := AllIs.get' (i := i) (w := v) h.2 (by simpa using e)
    exact ⟨w, by simpa using e', k⟩
  | [], [], _, _, _, e => by cases e
theorem AllIs.append : ∀ {vs us : List AV} {ws ts : List Value}, AllIs vs ws → AllIs us ts → AllIs (vs ++ us) (ws ++ ts)
  | [], _, [], _, _, h => h
  | _ :: _, _, _ :: _, _, h, k => ⟨h.1, AllIs.append h.2 k⟩
theorem AllIs.take : ∀ {vs : List AV} {ws : List Value} (n : Nat), AllIs vs ws → AllIs (vs.take n) (ws.take n)
  | _, _, 0, _ => by simp [AllIs]
  | [], [], n + 1, _ => by simp [AllIs]
  | _ :: _, _ :: _, n + 1, h => ⟨h.1, AllIs.take n h.2⟩
theorem AllIs.drop : ∀ {vs : List AV} {ws : List Value} (n : Nat), AllIs vs ws → AllIs (vs.drop n) (ws.drop n)
  | _, _, 0, h => h
  | [], [], n + 1, _ => by simp [AllIs]
  | _ :: _, _ :: _, n + 1, h => AllIs.drop n h.2
theorem AllIs.reverse : ∀ {vs : List AV} {ws : List Value}, AllIs vs ws → AllIs vs.reverse ws.reverse
  | [], [], _ => trivial
  | _ :: _, _ :: _, h => by
    rw [List.reverse_cons, List.reverse_cons]
    exact AllIs.append (AllIs.reverse h.2) ⟨h.1, trivial⟩
theorem AllIs.set : ∀ {vs : List AV} {ws : List Value} {v : AV} {w : Value} (i : Nat), AllIs vs ws → v.Is w → AllIs (vs.set i v) (ws.set i w)
  | [], [], _, _, _, _, _ => by simp [AllIs]
  | _ :: _, _ :: _, _, _, 0, h, k => ⟨k, h.2⟩
  | _ :: _, _ :: _, _, _, i + 1, h, k => ⟨h.1, AllIs.set i h.2 k⟩
theorem AllIs.replicate {v : AV} {w : Value} (k : v.Is w) : ∀ n, AllIs (List.replicate n v) (List.replicate n w)
  | 0 => trivial
  | n + 1 => ⟨k, AllIs.replicate k n⟩
abbrev il (l : List Int) : List AV := l.map AV.int
theorem AllIs.intsAre : ∀ {l : List Int} {ws : List Value}, AllIs (il l) ws → IntsAre ws l
  | [], [], _ => .nil
  | _ :: _, _ :: _, ⟨⟨t, e⟩, h⟩ => by subst e; exact .cons _ _ (AllIs.intsAre h)
theorem AllIs.ofInts {l : List Int} {ws : List Value} (h : IntsAre ws l) : AllIs (il l) ws := by
  induction h with
  | nil => trivial
  | cons _ _ _ ih => exact ⟨⟨_, rfl⟩, ih⟩
end Mine
namespace Mine
open PySem PySem.W PyProof.Rows PySem.Spec PySem.Calls
open PySem.Builtin.Int (intBits)

/-- what a step may do to the heap: new objects, the frame's own, those of the ledger -/
structure Step (X : FX) (H : AH) (h : Heap) (H' : AH) (h' : Heap) : Prop where
  fr : ∀ b o, h.get? b = some o → b ≠ X.L → b ∉ H.map (·.1) → h'.get? b = some o
  dm : ∀ p ∈ H', p.1 ∈ H.map (·.1) ∨ h.get? p.1 = none
theorem Step.refl {X : FX} {H : AH} {h : Heap} : Step X H h H h := ⟨fun _ _ e _ _ => e, fun _ hp => .inl (List.mem_map_of_mem hp)⟩
theorem Step.trans {X : FX} {H H₁ : AH} {σ₂ : AS} {h h₁ h₂ : Heap} (s₁ : Step X H h H₁ h₁) (s₂ : Step X H₁ h₁ σ₂.H h₂) (a : At X σ₂ h₂) : Step X H h σ₂.H h₂ := by
  refine ⟨fun b o e hL hd => s₂.fr b o (s₁.fr b o e hL hd) hL fun hm => ?_, fun p hp => ?_⟩
  · obtain ⟨q, hq, e2⟩ := List.mem_map.mp hm
    have e3 : q.1 = b := e2
    rcases s₁.dm q hq with h1 | h1
    · exact hd (e3 ▸ h1)
    · rw [e3, e] at h1; cases h1
  · rcases s₂.dm p hp with h1 | h1
    · obtain ⟨q, hq, e2⟩ := List.mem_map.mp h1
      have e3 : q.1 = p.1 := e2
      exact e3 ▸ s₁.dm q hq
    · by_cases hd : p.1 ∈ H.map (·.1)
      · exact .inl hd
      · refine .inr ?_
        cases e : h.get? p.1 with
        | none => rfl
        | some o =>
          obtain ⟨_, _, _, hL, _⟩ := a.hp p hp
          rw [s₁.fr _ o e hL hd] at h1; cases h1
theorem Step.sub {X : FX} {H H₁ H₂ : AH} {h h₁ : Heap} (s : Step X H h H₁ h₁) (hs : ∀ p ∈ H₂, p ∈ H₁) : Step X H h H₂ h₁ := ⟨s.fr, fun p hp => s.dm p (hs p hp)⟩
theorem Step.keep {X : FX} {H : AH} {h h₁ : Heap} (hk : ∀ b o, h.get? b = some o → h₁.get? b = some o) : Step X H h H h₁ := ⟨fun b o e _ _ => hk b o e, fun _ hp => .inl (List.mem_map_of_mem hp)⟩
/-- the pure expressions: the heap stays -/
def Ev (G : GX) (X : FX) (σ : AS) (e : Expr) (v : AV) : Prop :=
  ∀ (s : Shared) (Q E : Value → Shared → Prop), At X σ s.heap → (∀ w tk, v.Is w → Q w { s with toks := tk }) → wpAny G.M X.A (eval e X.env) Q E s
/-- expressions that make or change objects -/
def Ex (G : GX) (X : FX) (σ : AS) (e : Expr) (R : AV → AH → Prop) : Prop :=
  ∀ (s : Shared) (Q E : Value → Shared → Prop), At X σ s.heap → (∀ w v h' tk H', At X { σ with H := H' } h' → Step X σ.H s.heap H' h' → v.Is w → R v H' → Q w { s with heap := h', toks := tk }) → wpAny G.M X.A (eval e X.env) Q E s
/-- pure tests -/
def Tst (G : GX) (X : FX) (σ : AS) (e : Expr) (b : Bool) : Prop :=
  ∀ (s : Shared) (Q : Bool → Shared → Prop) (E : Value → Shared → Prop), At X σ s.heap → (∀ tk, Q b { s with toks := tk }) → wpAny G.M X.A (isTrue e X.env (eval e X.env)) Q E s
def TsX (G : GX) (X : FX) (σ : AS) (e : Expr) (R : Bool → AH → Prop) : Prop :=
  ∀ (s : Shared) (Q : Bool → Shared → Prop) (E : Value → Shared → Prop), At X σ s.heap → (∀ b h' tk H', At X { σ with H := H' } h' → Step X σ.H s.heap H' h' → R b H' → Q b { s with heap := h', toks := tk }) → wpAny G.M X.A (isTrue e X.env (eval e X.env)) Q E s

section
variable {G : GX} {X : FX} {σ : AS} {l r o i : Expr} {a b : Int} {pos : Pos} {v : AV} {x : Str}

theorem Ev.toEx {e : Expr} {R : AV → AH → Prop} (h : Ev G X σ e v) (hR : R v σ.H) : Ex G X σ e R :=
  fun s _ _ ha hQ => h s _ _ ha fun w tk hw => hQ w v s.heap tk σ.H ha .refl hw hR
theorem Ex.mono {e : Expr} {R R' : AV → AH → Prop} (h : Ex G X σ e R) (hR : ∀ v H, R v H → R' v H) : Ex G X σ e R' :=
  fun s _ _ ha hQ => h s _ _ ha fun w v h' tk H' hA st hw hr => hQ w v h' tk H' hA st hw (hR _ _ hr)

theorem Ev.loc (ok : X.Ok G) (hx : X.cs.names.lookup x = some .local) (hv : σ.m.lookup x = some v) (hd : (x == ("__debug__" : Str)) = false := by decide) : Ev G X σ (.Name x pos) v := by
  intro s Q E ha hQ
  obtain ⟨m, F, hm⟩ := ha.fr
  obtain ⟨w, hw, hi⟩ := hm x v hv
  exact nameX_L F hw (hQ w s.toks hi) ok.fn hx hd
theorem Ev.glob {w : Value} (ok : X.Ok G) (hx : X.cs.names.lookup x = some .globalImplicit) (hv : nsIn G.K mainGlobals x = some (some w)) (hi : v.Is w) (hd : (x == ("__debug__" : Str)) = false := by decide) : Ev G X σ (.Name x pos) v := by
  intro s Q E ha hQ
  obtain ⟨m, F, hm⟩ := ha.fr
  exact nameX_K F ok.kin (topRead_of ok.top) hv (hQ w s.toks hi) ok.fn hx hd
theorem Ev.bltn {w : Value} (ok : X.Ok G) (hx : X.cs.names.lookup x = some .globalImplicit) (hv : nsIn G.K mainGlobals x = some none) (hb : bootBuiltins x = some w) (hn : x ≠ "__name__") (hd : (x == ("__debug__" : Str)) = false := by decide) : Ev G X σ (.Name x pos) (.val w) := by
  intro s Q E ha hQ
  obtain ⟨m, F, hm⟩ := ha.fr
  exact nameX_B F ok.kin (topRead_of ok.top) hv hb hn (hQ w s.toks rfl) ok.fn hx hd
theorem At.cell {h : Heap} {c : Addr} (ha : At X σ h) (hm : (c, AO.cell (some v)) ∈ σ.H) : ∃ w, h.IsCell c (some w) ∧ v.Is w := by
  obtain ⟨o, h1, ⟨w, h2, h3⟩, _⟩ := ha.hp _ hm
  exact ⟨w, ⟨o, h1, h2⟩, h3⟩
theorem Ev.cell {c : Addr} (ok : X.Ok G) (hx : X.cs.names.lookup x = some .cell) (hc : X.cl.lookup x = some c) (hv : (c, AO.cell (some v)) ∈ σ.H) (hd : (x == ("__debug__" : Str)) = false := by decide) : Ev G X σ (.Name x pos) v := by
  intro s Q E ha hQ
  obtain ⟨w, h1, h2⟩ := ha.cell hv
  exact wpAny_Name (wpAny_loadName_cell ok.fn hx hc h1 (hQ w s.toks h2)) hd
theorem Ev.free {c : Addr} (ok : X.Ok G) (hx : X.cs.names.lookup x = some .free) (hc : X.cl.lookup x = some c) (hv : (c, AO.cell (some v)) ∈ σ.H) (hd : (x == ("__debug__" : Str)) = false := by decide) (hn : (x == ("__classdict__" : Str)) = false := by decide) : Ev G X σ (.Name x pos) v := by
  intro s Q E ha hQ
  obtain ⟨w, h1, h2⟩ := ha.cell hv
  exact wpAny_Name (wpAny_loadName_free ok.fn hx hc h1 (hQ w s.toks h2) hn) hd

theorem Ev.lit {k : Nat} : Ev G X σ (.Constant (.int a) k pos) (.int a) := fun s _ _ _ hQ => wpAny_Constant_int (hQ _ (s.toks + 1) ⟨_, rfl⟩)
theorem Ev.bool {t : Bool} {k : Nat} : Ev G X σ (.Constant (.bool t) k pos) (.val (.bool t)) := fun s _ _ _ hQ => wpAny_Constant_bool (hQ _ s.toks rfl)
theorem Ev.none {k : Nat} : Ev G X σ (.Constant .none k pos) (.val .none) := fun s _ _ _ hQ => wpAny_Constant_none (hQ _ s.toks rfl)

theorem At.toks {s : Shared} {tk : Nat} (ha : At X σ s.heap) : At X σ ({ s with toks := tk } : Shared).heap := ha

/-- two ints by an operator -/
theorem Ev.bin {op : Operator} {c : Int} (hl : Ev G X σ l (.int a)) (hr : Ev G X σ r (.int b))
    (h : ∀ (s : Shared) (Q E : Value → Shared → Prop) t u, Q (.int c s.toks) { s with toks := s.toks + 1 } → wpAny G.M X.A (binaryOp op (.int a t) (.int b u)) Q E s) : Ev G X σ (.BinOp l op r pos) (.int c) := by
  intro s Q E ha hQ
  refine wpAny_BinOp (hl s _ _ ha fun w tk ⟨t, e⟩ => ?_)
  subst e
  refine hr _ _ _ ha fun w tk' ⟨u, e⟩ => ?_
  subst e
  exact h _ _ _ _ _ (hQ _ (tk' + 1) ⟨_, rfl⟩)
theorem Ev.add (hl : Ev G X σ l (.int a)) (hr : Ev G X σ r (.int b)) : Ev G X σ (.BinOp l .Add r pos) (.int (a + b)) := .bin hl hr fun _ _ _ _ _ h => P.add_int h
theorem Ev.sub (hl : Ev G X σ l (.int a)) (hr : Ev G X σ r (.int b)) : Ev G X σ (.BinOp l .Sub r pos) (.int (a - b)) := .bin hl hr fun _ _ _ _ _ h => P.sub_int h
theorem Ev.mul (hl : Ev G X σ l (.int a)) (hr : Ev G X σ r (.int b)) (hm : IntMulOk a b) : Ev G X σ (.BinOp l .Mult r pos) (.int (a * b)) := .bin hl hr fun _ _ _ _ _ h => P.mul_int h hm
theorem Ev.shl {n : Nat} (hl : Ev G X σ l (.int a)) (hr : Ev G X σ r (.int (n : Int))) (hm : intBits a + n ≤ 2 ^ 27) : Ev G X σ (.BinOp l .LShift r pos) (.int (a * 2 ^ n)) :=
  .bin hl hr fun _ _ _ _ _ h => PyProof.Rows.lshift_int (by omega) (by omega) (by simpa using h)
theorem fdiv_pow (a : Int) (n : Nat) : a.fdiv (2 ^ n) = a / 2 ^ n := Int.fdiv_eq_ediv_of_nonneg _ (Int.le_of_lt (kbt_pos n))
theorem Ev.shr {n : Nat} (hl : Ev G X σ l (.int a)) (hr : Ev G X σ r (.int (n : Int))) : Ev G X σ (.BinOp l .RShift r pos) (.int (a / 2 ^ n)) := by
  refine .bin hl hr fun s Q E t u h => ?_
  by_cases hc : (n : Int) ≥ ((intBits a : Nat) : Int)
  · have hlt : a.natAbs < 2 ^ n := intBits_le_iff.mp (by omega)
    have e : a / 2 ^ n = if a < 0 then -1 else 0 := by
      have hp := kbt_cast n
      split
      · have : a / 2 ^ n = -1 := by
          have := (Int.ediv_emod_unique (a := a) (b := 2 ^ n) (q := -1) (r := a + 2 ^ n) (kbt_pos n)).mpr ⟨by omega, by omega, by omega⟩
          exact this.1
        exact this
      · exact Int.ediv_eq_zero_of_lt (by omega) (by omega)
    rw [e] at h
    exact AutoIntOps.rshift_1 (by omega) hc h
  · exact AutoIntOps.rshift_2 (by omega) hc (by rw [show ((n : Int)).toNat = n from by simp, fdiv_pow]; exact h)
theorem irshift_nat {n : Nat} {s : Shared} {Q E : Value → Shared → Prop} {A : Around} {t u : Tok} (h : Q (.int (a / 2 ^ n) s.toks) { s with toks := s.toks + 1 }) : wpAny G.M A (inplaceOp .RShift (.int a t) (.int (n : Int) u)) Q E s := by
  by_cases hc : (n : Int) ≥ ((intBits a : Nat) : Int)
  · have hlt : a.natAbs < 2 ^ n := intBits_le_iff.mp (by omega)
    have e : a / 2 ^ n = if a < 0 then -1 else 0 := by
      have hp := kbt_cast n
      split
      · exact ((Int.ediv_emod_unique (a := a) (b := 2 ^ n) (q := -1) (r := a + 2 ^ n) (kbt_pos n)).mpr ⟨by omega, by omega, by omega⟩).1
      · exact Int.ediv_eq_zero_of_lt (by omega) (by omega)
    rw [e] at h
    exact AutoIntOps.irshift_1 (by omega) hc h
  · exact AutoIntOps.irshift_2 (by omega) hc (by rw [show ((n : Int)).toNat = n from by simp, fdiv_pow]; exact h)
theorem Ev.band {c : Int} (hl : Ev G X σ l (.int a)) (hr : Ev G X σ r (.int b)) (hc : Builtin.bitAnd a b = c) : Ev G X σ (.BinOp l .BitAnd r pos) (.int c) := .bin hl hr fun _ _ _ _ _ h => PyProof.Rows.and_int (hc ▸ h)
theorem Ev.bor {c : Int} (hl : Ev G X σ l (.int a)) (hr : Ev G X σ r (.int b)) (hc : Builtin.bitOr a b = c) : Ev G X σ (.BinOp l .BitOr r pos) (.int c) := .bin hl hr fun _ _ _ _ _ h => PyProof.Rows.or_int (hc ▸ h)
theorem Ev.bxor {c : Int} (hl : Ev G X σ l (.int a)) (hr : Ev G X σ r (.int b)) (hc : Builtin.bitXor a b = c) : Ev G X σ (.BinOp l .BitXor r pos) (.int c) := .bin hl hr fun _ _ _ _ _ h => PyProof.Rows.xor_int (hc ▸ h)
theorem Ev.mod (hl : Ev G X σ l (.int a)) (hr : Ev G X σ r (.int b)) (hb : 0 < b) : Ev G X σ (.BinOp l .Mod r pos) (.int (a % b)) :=
  .bin hl hr fun _ _ _ _ _ h => AutoIntOps.mod_1 (by simp; omega) (by rw [Int.fmod_eq_emod_of_nonneg _ (by omega)]; exact h)
theorem Ev.fdiv (hl : Ev G X σ l (.int a)) (hr : Ev G X σ r (.int b)) (hb : 0 < b) (hp : Builtin.divisionGoesByPylong a b = false) : Ev G X σ (.BinOp l .FloorDiv r pos) (.int (a / b)) :=
  .bin hl hr fun _ _ _ _ _ h => AutoIntOps.floordiv_1 (by simp; omega) (by rw [hp]; exact Bool.false_ne_true) (by rw [Int.fdiv_eq_ediv_of_nonneg _ (by omega)]; exact h)
theorem Ev.pow {n : Nat} (hl : Ev G X σ l (.int a)) (hr : Ev G X σ r (.int (n : Int))) (hm : intBits a * n ≤ 2 ^ 27) : Ev G X σ (.BinOp l .Pow r pos) (.int (a ^ n)) :=
  .bin hl hr fun _ _ _ _ _ h => PyProof.Rows.pow_int (by omega) (by have := Int.natCast_mul (intBits a) n; omega) (by simpa using h)
theorem Ev.un {op : UnaryOp} {c : Int} {e : Expr} (he : Ev G X σ e (.int a))
    (h : ∀ (s : Shared) (Q E : Value → Shared → Prop) t, Q (.int c s.toks) { s with toks := s.toks + 1 } → wpAny G.M X.A (unaryOp op (.int a t)) Q E s) : Ev G X σ (.UnaryOp op e pos) (.int c) := by
  intro s Q E ha hQ
  refine wpAny_UnaryOp (he s _ _ ha fun w tk ⟨t, e⟩ => ?_)
  subst e
  exact h _ _ _ _ (hQ _ (tk + 1) ⟨_, rfl⟩)
theorem Ev.neg {e : Expr} (he : Ev G X σ e (.int a)) : Ev G X σ (.UnaryOp .USub e pos) (.int (-a)) := .un he fun _ _ _ _ h => P.neg_int h
theorem Ev.inv {e : Expr} (he : Ev G X σ e (.int a)) : Ev G X σ (.UnaryOp .Invert e pos) (.int (-a - 1)) := .un he fun _ _ _ _ h => invert_int h

theorem Ev.bitlen {apos : Pos} (ho : Ev G X σ o (.int a))
    (he : ∃ pl, eval (.Call (.Attribute o (Str.ofString "bit_length") apos) [] [] pos) X.env = (do
      let ov ← eval o X.env
      standAt apos.atName
      let (f, first) ← holding [ov] (getMethod ov (Str.ofString "bit_length") pl)
      callWith pos f first (backTo pos (starEach [] X.env)) [])) : Ev G X σ (.Call (.Attribute o (Str.ofString "bit_length") apos) [] [] pos) (.int (intBits a : Nat)) := by
  intro s Q E ha hQ
  obtain ⟨pl, he⟩ := he
  refine MethodCall_ (ho s _ _ ha fun w tk ⟨t, e⟩ => ?_) he
  subst e
  exact getMethod_int_bit_length (callWith_method0 (call_int_bit_length (hQ _ (tk + 1) ⟨_, rfl⟩)))

/-- comparisons of ints -/
def cmpI : CmpOp → Int → Int → Option Bool
  | .Eq, a, b => some (decide (a = b))
  | .NotEq, a, b => some (decide (a ≠ b))
  | .Lt, a, b => some (decide (a < b))
  | .LtE, a, b => some (decide (a ≤ b))
  | .Gt, a, b => some (decide (b < a))
  | .GtE, a, b => some (decide (b ≤ a))
  | _, _, _ => Option.none
theorem cmp_ints {op : CmpOp} {c : Bool} (hc : cmpI op a b = some c) {s : Shared} {Q E : Value → Shared → Prop} {A : Around} {t u : Tok} (h : Q (.bool c) s) : wpAny G.M A (compareOp op (.int a t) (.int b u)) Q E s := by
  cases op <;> simp only [cmpI, Option.some.injEq, reduceCtorEq] at hc <;> subst hc
  · exact P.eq_int (by rwa [show (a == b) = decide (a = b) from rfl])
  · refine P.ne_int ?_
    rwa [show (a != b) = decide (a ≠ b) from by simp [bne, BEq.beq]]
  · exact P.lt_int h
  · exact P.le_int h
  · exact P.gt_int h
  · exact P.ge_int h
theorem Ev.cmp {op : CmpOp} {c : Bool} (hl : Ev G X σ l (.int a)) (hr : Ev G X σ r (.int b)) (hc : cmpI op a b = some c) (hm : behindInMarks op r = false := by with_unfolding_all rfl) : Ev G X σ (.Compare l [op] [r] pos) (.val (.bool c)) := by
  intro s Q E ha hQ
  refine wpAny_Compare1 (hl s _ _ ha fun w tk ⟨t, e⟩ => ?_) hm
  subst e
  refine hr _ _ _ ha fun w tk' ⟨u, e⟩ => ?_
  subst e
  exact cmp_ints hc (hQ _ tk' rfl)
theorem Tst.cmp {op : CmpOp} {c : Bool} (hl : Ev G X σ l (.int a)) (hr : Ev G X σ r (.int b)) (hc : cmpI op a b = some c) (hm : behindInMarks op r = false := by with_unfolding_all rfl) : Tst G X σ (.Compare l [op] [r] pos) c := by
  intro s Q E ha hQ
  refine wpAny_isTrue_Compare1 (hl s _ _ ha fun w tk ⟨t, e⟩ => ?_) hm
  subst e
  refine hr _ _ _ ha fun w tk' ⟨u, e⟩ => ?_
  subst e
  exact cmp_ints hc (wpAny_truthy_bool (hQ tk'))
theorem Tst.int {e : Expr} (h : Ev G X σ e (.int a)) (he : ∀ whole, isTrue e X.env whole = (do let v ← whole; standAt e.pos; holding [v] (truthy v)) := by intro _; rfl) : Tst G X σ e (decide (a ≠ 0)) := by
  intro s Q E ha hQ
  refine wpAny_isTrue_value (h s _ _ ha fun w tk ⟨t, e⟩ => ?_) (he _)
  subst e
  exact P.truthy_int (by rw [show (a != 0) = decide (a ≠ 0) from by simp [bne, BEq.beq]]; exact hQ tk)
theorem Tst.bool {e : Expr} {t : Bool} (h : Ev G X σ e (.val (.bool t))) (he : ∀ whole, isTrue e X.env whole = (do let v ← whole; standAt e.pos; holding [v] (truthy v)) := by intro _; rfl) : Tst G X σ e t := by
  intro s Q E ha hQ
  refine wpAny_isTrue_value (h s _ _ ha fun w tk e => ?_) (he _)
  cases e
  exact wpAny_truthy_bool (hQ tk)
theorem Tst.not {e : Expr} {t : Bool} (h : Tst G X σ e t) : Tst G X σ (.UnaryOp .Not e pos) (!t) := by
  intro s Q E ha hQ
  exact wpAny_isTrue_Not (h s _ _ ha hQ)
theorem Tst.and_nil : ∀ {s : Shared} {Q : Bool → Shared → Prop} {E : Value → Shared → Prop}, (∀ tk, Q true { s with toks := tk }) → wpAny G.M X.A (allTrue .And [] X.env) Q E s := fun h => wpAny_allTrue_And_nil (h _)
theorem Tst.and2 {e f : Expr} {t u : Bool} (h : Tst G X σ e t) (k : t = true → Tst G X σ f u) (hf : t = false → u = false) : Tst G X σ (.BoolOp .And [e, f] pos) u := by
  intro s Q E ha hQ
  refine wpAny_isTrue_BoolOp (wpAny_allTrue_And_cons (h s _ _ ha fun tk => ?_))
  cases t with
  | false => rw [if_neg (by decide)]; cases hf rfl; exact hQ tk
  | true =>
    rw [if_pos rfl]
    refine wpAny_allTrue_And_cons (k rfl _ _ _ ha fun tk' => ?_)
    cases u with
    | false => rw [if_neg (by decide)]; exact hQ tk'
    | true => rw [if_pos rfl]; exact wpAny_allTrue_And_nil (hQ tk')
theorem Ev.ite {test t f : Expr} {c : Bool} (h : Tst G X σ test c) (ht : c = true → Ev G X σ t v) (hf : c = false → Ev G X σ f v) : Ev G X σ (.IfExp test t f pos) v := by
  intro s Q E ha hQ
  refine wpAny_IfExp (h s _ _ ha fun tk => ?_)
  cases c with
  | false => exact hf rfl _ _ _ ha hQ
  | true => exact ht rfl _ _ _ ha hQ
end
end Mine
namespace Mine
open PySem PySem.W PyProof.Rows PySem.Spec PySem.Calls
open PySem.Builtin.Int (intBits)

section
variable {G : GX} {X : FX} {σ : AS} {h h' : Heap}
theorem At.keep (ha : At X σ h) (hk : ∀ b o, h.get? b = some o → h'.get? b = some o) : At X σ h' := by
  obtain ⟨m, F, hm⟩ := ha.fr
  refine ⟨⟨m, ⟨F.ns.keeps hk, fun b o e => hk b o (F.keep b o e), F.above⟩, hm⟩, fun p hp => ?_, ha.nd⟩
  obtain ⟨o, h1, h2⟩ := ha.hp p hp
  exact ⟨o, hk _ _ h1, h2⟩
theorem At.sub {σ' : AS} (ha : At X σ h) (hm : ∀ x v, σ'.m.lookup x = some v → σ.m.lookup x = some v) (hH : Sub σ'.H σ.H) : At X σ' h := by
  obtain ⟨m, F, hm'⟩ := ha.fr
  exact ⟨⟨m, F, fun x v e => hm' x v (hm x v e)⟩, fun p hp => ha.hp p (hH.mem p hp), hH.nodup ha.nd⟩
theorem At.live (ha : At X σ h) : ∃ o, h.get? X.L = some o := by
  obtain ⟨m, F, _⟩ := ha.fr
  obtain ⟨o, _, _, e, _⟩ := F.ns
  exact ⟨o, e⟩
/-- something new at an address that the heap did not bear -/
theorem At.new {d : Addr} {ao : AO} {o : Obj} (ha : At X σ h) (hk : ∀ b o, h.get? b = some o → h'.get? b = some o) (hd : h.get? d = none) (ho : h'.get? d = some o) (hi : ao.Is o) : At X { σ with H := (d, ao) :: σ.H } h' := by
  have ha' := ha.keep hk
  refine ⟨ha'.fr, fun p hp => ?_, ?_⟩
  · rcases List.mem_cons.mp hp with rfl | hp
    · refine ⟨o, ho, hi, fun q => ?_, ?_⟩
      · obtain ⟨oL, e⟩ := ha.live
        have q' : d = X.L := q
        rw [q', e] at hd; cases hd
      · obtain ⟨m, F, _⟩ := ha.fr
        cases q : X.h₀.get? d with
        | none => rfl
        | some o' => rw [F.keep _ _ q] at hd; cases hd
    · exact ha'.hp p hp
  · refine List.nodup_cons.mpr ⟨fun hm => ?_, ha.nd⟩
    obtain ⟨q, hq, e⟩ := List.mem_map.mp hm
    obtain ⟨oq, h1, _⟩ := ha.hp q hq
    have h2 : q.1 = d := e
    rw [h2, hd] at h1; cases h1
theorem Step.new {d : Addr} {ao : AO} {H : AH} (hk : ∀ b o, h.get? b = some o → h'.get? b = some o) (hd : h.get? d = none) : Step X H h ((d, ao) :: H) h' :=
  ⟨fun b o e _ _ => hk b o e, fun p hp => (List.mem_cons.mp hp).elim (fun e => .inr (by rw [e]; exact hd)) fun h => .inl (List.mem_map_of_mem h)⟩
theorem get_size (h : Heap) : h.get? h.objs.size = none := Heap.get?_none_of_le (Nat.le_refl _)
theorem At.push {ao : AO} {o : Obj} (ha : At X σ h) (hf : o.isFreed = false) (hi : ao.Is o) : At X { σ with H := (h.objs.size, ao) :: σ.H } (h.push o) :=
  ha.new (fun _ _ e => Heap.get?_push_of_some _ e) (get_size h) (Heap.get?_push_size _ hf) hi
theorem Step.push {ao : AO} {o : Obj} {H : AH} : Step X H h ((h.objs.size, ao) :: H) (h.push o) := .new (fun _ _ e => Heap.get?_push_of_some _ e) (get_size h)
theorem Step.upd {d : Addr} {ao ao' : AO} {pre post : AH} (hs : Heap.SameBut d h h') : Step X (pre ++ (d, ao) :: post) h (pre ++ (d, ao') :: post) h' :=
  ⟨fun b o e _ hd => (hs.2 b fun q => hd (by rw [q]; simp)).trans e, fun p hp => .inl (by
    rcases List.mem_append.mp hp with q | q
    · exact List.mem_map.mpr ⟨p, List.mem_append_left _ q, rfl⟩
    · rcases List.mem_cons.mp q with rfl | q
      · simp
      · exact List.mem_map.mpr ⟨p, List.mem_append_right _ (.tail _ q), rfl⟩)⟩
theorem Step.frame {H : AH} (hs : Heap.SameBut X.L h h') : Step X H h H h' := ⟨fun b o e hL _ => (hs.2 b hL).trans e, fun _ hp => .inl (List.mem_map_of_mem hp)⟩
/-- an object of the ledger is turned -/
theorem At.upd {d : Addr} {ao ao' : AO} {o' : Obj} {pre post : AH} (ha : At X σ h) (hH : σ.H = pre ++ (d, ao) :: post) (hs : Heap.SameBut d h h') (ho : h'.get? d = some o') (hi : ao'.Is o') : At X { σ with H := pre ++ (d, ao') :: post } h' := by
  obtain ⟨m, F, hm⟩ := ha.fr
  have hd : (d, ao) ∈ σ.H := by rw [hH]; simp
  obtain ⟨o, h1, h2, h3, h4⟩ := ha.hp _ hd
  have nd := ha.nd
  rw [hH] at nd
  refine ⟨⟨m, ⟨F.ns.sameBut hs (Ne.symm h3), fun b ob e => (hs.2 b (fun q => ?_)).trans (F.keep b ob e), F.above⟩, hm⟩, fun p hp => ?_, ?_⟩
  · rw [q, h4] at e; cases e
  · rcases List.mem_append.mp hp with q | q
    · obtain ⟨op, e1, e2⟩ := ha.hp p (by rw [hH]; exact List.mem_append_left _ q)
      refine ⟨op, (hs.2 _ (fun z => ?_)).trans e1, e2⟩
      rw [List.map_append, List.nodup_append] at nd
      exact nd.2.2 p.1 (List.mem_map_of_mem q) d (by simp) z
    · rcases List.mem_cons.mp q with rfl | q
      · exact ⟨o', ho, hi, h3, h4⟩
      · obtain ⟨op, e1, e2⟩ := ha.hp p (by rw [hH]; exact List.mem_append_right _ (.tail _ q))
        refine ⟨op, (hs.2 _ (fun z => ?_)).trans e1, e2⟩
        rw [List.map_append, List.map_cons, List.nodup_append] at nd
        have := (List.nodup_cons.mp nd.2.1).1
        exact this (z ▸ List.mem_map_of_mem (f := (·.1)) q)
  · simpa using nd
theorem At.store {x : Str} {v : AV} {w : Value} {m : Str → Option Value} (ha : At X σ h) (F : Fr X.h₀ X.L h m) (hm : ∀ x v, σ.m.lookup x = some v → ∃ w, m x = some w ∧ v.Is w)
    (hn : h'.Ns X.L (fun y => if y = x then some w else m y)) (hs : Heap.SameBut X.L h h') (hi : v.Is w) : At X (σ.set x v) h' := by
  refine ⟨⟨_, F.set hn hs, fun y u e => ?_⟩, fun p hp => ?_, ha.nd⟩
  · unfold AS.set at e
    simp only [List.lookup_cons] at e
    cases hb : y == x with
    | true => rw [hb] at e; cases e; rw [if_pos (eq_of_beq hb)]; exact ⟨w, rfl, hi⟩
    | false => rw [hb] at e; rw [if_neg (fun q => by rw [q] at hb; simp at hb)]; exact hm y u e
  · obtain ⟨o, h1, h2, h3, h4⟩ := ha.hp p hp
    exact ⟨o, (hs.2 _ h3).trans h1, h2, h3, h4⟩
end

inductive Fl where
  | next | brk | cont
  | ret (v : AV)
def Fl.Is : Fl → Flow → Prop
  | .next, f => f = .next
  | .brk, f => f = .brk
  | .cont, f => f = .cont
  | .ret v, f => ∃ w, f = .ret w ∧ v.Is w
def St (G : GX) (X : FX) (σ : AS) (st : Stmt) (R : Fl → AS → Prop) : Prop :=
  ∀ (s : Shared) (Q : Flow → Shared → Prop) (E : Value → Shared → Prop), At X σ s.heap → (∀ f fl h' tk σ', At X σ' h' → Step X σ.H s.heap σ'.H h' → f.Is fl → R f σ' → Q fl { s with heap := h', toks := tk }) → wpAny G.M X.A (exec st X.env) Q E s
def Ss (G : GX) (X : FX) (σ : AS) (b : List Stmt) (R : Fl → AS → Prop) : Prop :=
  ∀ (s : Shared) (Q : Flow → Shared → Prop) (E : Value → Shared → Prop), At X σ s.heap → (∀ f fl h' tk σ', At X σ' h' → Step X σ.H s.heap σ'.H h' → f.Is fl → R f σ' → Q fl { s with heap := h', toks := tk }) → wpAny G.M X.A (execs b X.env) Q E s
/-- the store of a name -/
def Sn (G : GX) (X : FX) (σ : AS) (x : Str) (v : AV) (σ' : AS) : Prop :=
  ∀ (s : Shared) (w : Value) (Q : Unit → Shared → Prop) (E : Value → Shared → Prop), At X σ s.heap → v.Is w → (∀ h' tk, At X σ' h' → Step X σ.H s.heap σ'.H h' → Q () { s with heap := h', toks := tk }) → wpAny G.M X.A (storeName X.env x w) Q E s

section
variable {G : GX} {X : FX} {σ : AS} {R : Fl → AS → Prop} {x y : Str} {v u : AV} {pos pos' : Pos} {e : Expr}

theorem St.mono {st : Stmt} {R' : Fl → AS → Prop} (h : St G X σ st R) (k : ∀ f σ', R f σ' → R' f σ') : St G X σ st R' :=
  fun s Q E ha hQ => h s Q E ha fun f fl h' tk σ' a z b c => hQ f fl h' tk σ' a z b (k _ _ c)
theorem Ss.mono {b : List Stmt} {R' : Fl → AS → Prop} (h : Ss G X σ b R) (k : ∀ f σ', R f σ' → R' f σ') : Ss G X σ b R' :=
  fun s Q E ha hQ => h s Q E ha fun f fl h' tk σ' a z b c => hQ f fl h' tk σ' a z b (k _ _ c)
theorem Ss.pre {b : List Stmt} {σ' : AS} (h : Ss G X σ' b R) (hm : ∀ x v, σ'.m.lookup x = some v → σ.m.lookup x = some v) (hH : Sub σ'.H σ.H) : Ss G X σ b R :=
  fun s Q E ha hQ => h s Q E (ha.sub hm hH) fun f fl h' tk σ'' a z b c => hQ f fl h' tk σ'' a ((Step.refl.sub hH.mem).trans z a) b c
theorem Ss.nil (h : R .next σ) : Ss G X σ [] R := fun s _ _ ha hQ => wpAny_execs_nil (hQ .next .next s.heap s.toks σ ha .refl rfl h)
theorem Ss.cons {st : Stmt} {rest : List Stmt} (h : St G X σ st fun f σ' => match f with | .next => Ss G X σ' rest R | f => R f σ') : Ss G X σ (st :: rest) R := by
  intro s Q E ha hQ
  refine wpAny_execs_cons (h s _ _ ha fun f fl h' tk σ' a z b c => ?_)
  cases f with
  | next => cases b; exact c _ _ _ a fun f fl h'' tk' σ'' a' z' b' c' => hQ f fl h'' tk' σ'' a' (z.trans z' a') b' c'
  | brk => cases b; exact hQ .brk _ h' tk σ' a z rfl c
  | cont => cases b; exact hQ .cont _ h' tk σ' a z rfl c
  | ret v => obtain ⟨w, rfl, i⟩ := b; exact hQ (.ret v) _ h' tk σ' a z ⟨w, rfl, i⟩ c

theorem Sn.loc (ok : X.Ok G) (hx : X.cs.names.lookup x = some .local) : Sn G X σ x v (σ.set x v) := by
  intro s w Q E ha hi hQ
  obtain ⟨m, F, hm⟩ := ha.fr
  refine wpAny_storeName_local (env := X.env) hx F.ns (fun h' hn hs => hQ h' (s.toks + 1) (ha.store F hm hn hs hi) (.frame hs)) ?_
  show (X.cs.kind == .class || (X.cs.kind == .module && X.L != mainGlobals)) = false
  rw [ok.fn]; rfl
theorem Sn.cell {c : Addr} {old : Option AV} {pre post : AH} (ok : X.Ok G) (hx : X.cs.names.lookup x = some .cell) (hc : X.cl.lookup x = some c) (hH : σ.H = pre ++ (c, .cell old) :: post) : Sn G X σ x v { σ with H := pre ++ (c, .cell (some v)) :: post } := by
  intro s w Q E ha hi hQ
  obtain ⟨o, h1, h2, _, _⟩ := ha.hp (c, .cell old) (by rw [hH]; simp)
  have hv : ∃ v₀, s.heap.IsCell c v₀ := by
    cases old with
    | none => exact ⟨none, o, h1, h2⟩
    | some u => obtain ⟨z, hz, _⟩ := h2; exact ⟨some z, o, h1, hz⟩
  obtain ⟨v₀, hv⟩ := hv
  refine wpAny_storeName_cell (env := X.env) ok.fn hx hc hv fun h' hv' hs => ?_
  obtain ⟨o', e1, e2⟩ := hv'
  exact hQ h' s.toks (ha.upd hH hs e1 ⟨w, e2, hi⟩) (hH ▸ .upd hs)

theorem St.assignX {R' : AV → AH → Prop} (he : Ex G X σ e R') (hR : ∀ v H, R' v H → ∃ σ', Sn G X { σ with H := H } x v σ' ∧ R .next σ') (hs : swapsWith e (some (.Name x pos')) pos.line X.env = pure false := by rfl) : St G X σ (.Assign [.Name x pos'] e pos) R := by
  intro s Q E ha hQ
  refine wpAny_Assign_Name (he s _ _ ha fun w v h' tk H' a z i r => ?_) hs
  obtain ⟨σ', n, r'⟩ := hR v H' r
  exact n _ w _ _ a i fun h'' tk' a' z' => hQ .next .next h'' tk' σ' a' (z.trans z' a') rfl r'
theorem St.assign (ok : X.Ok G) (hx : X.cs.names.lookup x = some .local) (he : Ev G X σ e v) (hR : R .next (σ.set x v)) (hs : swapsWith e (some (.Name x pos')) pos.line X.env = pure false := by rfl) : St G X σ (.Assign [.Name x pos'] e pos) R :=
  St.assignX (he.toEx (R := fun u H => u = v ∧ H = σ.H) ⟨rfl, rfl⟩) (fun u H ⟨e1, e2⟩ => by subst e1 e2; exact ⟨_, Sn.loc ok hx, hR⟩) hs
theorem St.assignL {R' : AV → AH → Prop} (ok : X.Ok G) (hx : X.cs.names.lookup x = some .local) (he : Ex G X σ e R') (hR : ∀ v H, R' v H → R .next (AS.set { σ with H := H } x v)) (hs : swapsWith e (some (.Name x pos')) pos.line X.env = pure false := by rfl) : St G X σ (.Assign [.Name x pos'] e pos) R :=
  St.assignX he (fun v H r => ⟨_, Sn.loc ok hx, hR v H r⟩) hs
theorem St.aug {op : Operator} {a b c : Int} (ok : X.Ok G) (hx : X.cs.names.lookup x = some .local) (hv : σ.m.lookup x = some (.int a)) (he : Ev G X σ e (.int b))
    (h : ∀ (s : Shared) (Q E : Value → Shared → Prop) t u, Q (.int c s.toks) { s with toks := s.toks + 1 } → wpAny G.M X.A (inplaceOp op (.int a t) (.int b u)) Q E s) (hR : R .next (σ.set x (.int c))) : St G X σ (.AugAssign (.Name x pos') op e pos) R := by
  intro s Q E ha hQ
  obtain ⟨m, F, hm⟩ := ha.fr
  obtain ⟨w, hw, t, rfl⟩ := hm x _ hv
  refine wpAny_AugAssign_Name (wpAny_loadName_local (env := X.env) ok.fn hx F.ns hw ?_)
  refine he s _ _ ha fun w tk ⟨u, e⟩ => ?_
  subst e
  refine h _ _ _ _ _ ?_
  exact Sn.loc (v := .int c) ok hx _ _ _ _ ha ⟨_, rfl⟩ fun h'' tk' a' z' => hQ .next .next h'' tk' _ a' z' rfl hR
theorem St.ret (he : Ev G X σ e v) (hR : R (.ret v) σ) : St G X σ (.Return (some e) pos) R := by
  intro s Q E ha hQ
  exact wpAny_Return_some (he s _ _ ha fun w tk i => hQ (.ret v) (.ret w) s.heap tk σ ha .refl ⟨w, rfl, i⟩ hR)
theorem St.retX {R' : AV → AH → Prop} (he : Ex G X σ e R') (hR : ∀ v H, R' v H → R (.ret v) { σ with H := H }) : St G X σ (.Return (some e) pos) R := by
  intro s Q E ha hQ
  exact wpAny_Return_some (he s _ _ ha fun w v h' tk H' a z i r => hQ (.ret v) (.ret w) h' tk _ a z ⟨w, rfl, i⟩ (hR v H' r))
theorem St.retN (hR : R (.ret (.val .none)) σ) : St G X σ (.Return none pos) R := by
  intro s Q E ha hQ
  exact wpAny_Return_none (hQ (.ret (.val .none)) (.ret .none) s.heap s.toks σ ha .refl ⟨_, rfl, rfl⟩ hR)
theorem St.ite {test : Expr} {c : Bool} {t f : List Stmt} (ht : Tst G X σ test c) (h1 : c = true → Ss G X σ t R) (h2 : c = false → Ss G X σ f R) : St G X σ (.If test t f pos) R := by
  intro s Q E ha hQ
  refine wpAny_If (ht s _ _ ha fun tk => ?_)
  cases c with
  | true => rw [if_pos rfl]; exact h1 rfl _ _ _ ha hQ
  | false => rw [if_neg (by decide)]; exact h2 rfl _ _ _ ha hQ
theorem St.iteX {test : Expr} {R' : Bool → AH → Prop} {t f : List Stmt} (ht : TsX G X σ test R') (h1 : ∀ H, R' true H → Ss G X { σ with H := H } t R) (h2 : ∀ H, R' false H → Ss G X { σ with H := H } f R) : St G X σ (.If test t f pos) R := by
  intro s Q E ha hQ
  refine wpAny_If (ht s _ _ ha fun c h' tk H' a z r => ?_)
  cases c with
  | true => rw [if_pos rfl]; exact h1 _ r _ _ _ a fun f fl h'' tk' σ'' a' z' b' c' => hQ f fl h'' tk' σ'' a' (z.trans z' a') b' c'
  | false => rw [if_neg (by decide)]; exact h2 _ r _ _ _ a fun f fl h'' tk' σ'' a' z' b' c' => hQ f fl h'' tk' σ'' a' (z.trans z' a') b' c'
theorem St.expr {R' : AV → AH → Prop} (he : Ex G X σ e R') (hR : ∀ v H, R' v H → R .next { σ with H := H }) (hi : interactive X.env = false := by rfl) (hs : swapsWith e none pos.line X.env = pure false := by rfl) : St G X σ (.Expr e pos) R := by
  intro s Q E ha hQ
  exact wpAny_Expr_any (he s _ _ ha fun w v h' tk H' a z i r => hQ .next .next h' tk _ a z rfl (hR v H' r)) hi hs

/-- while, by an invariant with a measure -/
theorem St.whileI {test : Expr} {body : List Stmt} (I : Nat → AS → Prop)
    (turn : ∀ n τ, I n τ → ∃ c, Tst G X τ test c ∧ (c = true → Ss G X τ body fun f τ' => match f with | .next | .cont => ∃ k, k < n ∧ I k τ' | .brk => R .next τ' | .ret v => R (.ret v) τ') ∧ (c = false → R .next τ))
    (n : Nat) (h0 : I n σ) : St G X σ (.While test body [] pos) R := by
  intro s Q E ha hQ
  refine wpAny_While (codeAny_whileLoop (fun n s' => ∃ h' tk τ, s' = { s with heap := h', toks := tk } ∧ At X τ h' ∧ Step X σ.H s.heap τ.H h' ∧ I n τ) ?_ n ⟨s.heap, s.toks, σ, rfl, ha, .refl, h0⟩)
  rintro n s' ⟨h', tk, τ, rfl, a, z, i⟩
  obtain ⟨c, ht, h1, h2⟩ := turn n τ i
  refine ht _ _ _ a fun tk' => ?_
  cases c with
  | false => rw [if_neg (by decide)]; exact wpAny_execs_nil (hQ .next .next h' tk' τ a z rfl (h2 rfl))
  | true =>
    rw [if_pos rfl]
    refine h1 rfl _ _ _ a fun f fl h'' tk'' τ' a' z' b' c' => ?_
    cases f with
    | next => cases b'; obtain ⟨k, hk, ik⟩ := c'; exact ⟨k, hk, h'', tk'', τ', rfl, a', z.trans z' a', ik⟩
    | cont => cases b'; obtain ⟨k, hk, ik⟩ := c'; exact ⟨k, hk, h'', tk'', τ', rfl, a', z.trans z' a', ik⟩
    | brk => cases b'; exact hQ .next .next h'' tk'' τ' a' (z.trans z' a') rfl c'
    | ret v => obtain ⟨w, rfl, iw⟩ := b'; exact hQ (.ret v) (.ret w) h'' tk'' τ' a' (z.trans z' a') ⟨w, rfl, iw⟩ c'
end
end Mine
namespace Mine
open PySem PySem.W PyProof.Rows PySem.Spec PySem.Calls
open PySem.Builtin.Int (intBits)

section
variable {G : GX} {X : FX} {σ : AS} {h h' : Heap}
theorem At.keepBut {wr : List Addr} (ha : At X σ h) (hk : ∀ b o, b ∉ wr → h.get? b = some o → h'.get? b = some o) (hL : X.L ∉ wr) (h0 : ∀ b ∈ wr, X.h₀.get? b = none) (hd : ∀ b ∈ wr, b ∉ σ.H.map (·.1)) : At X σ h' := by
  obtain ⟨m, F, hm⟩ := ha.fr
  refine ⟨⟨m, ⟨F.ns.at' fun o e => hk _ o hL e, fun b o e => hk b o (fun hb => by rw [h0 b hb] at e; cases e) (F.keep b o e), F.above⟩, hm⟩, fun p hp => ?_, ha.nd⟩
  obtain ⟨o, h1, h2⟩ := ha.hp p hp
  exact ⟨o, hk _ _ (fun hb => hd _ hb (List.mem_map_of_mem hp)) h1, h2⟩
theorem At.old {b : Addr} {o : Obj} (ha : At X σ h) (e : X.h₀.get? b = some o) : h.get? b = some o := by
  obtain ⟨m, F, _⟩ := ha.fr
  exact F.keep b o e
theorem At.objAt {b : Addr} {o : Obj} (ha : At X σ h) (e : (b, AO.obj o) ∈ σ.H) : h.get? b = some o := by
  obtain ⟨o', h1, h2, _⟩ := ha.hp _ e
  cases h2; exact h1
end

/-- what a for runs over: the items; lk: a list of the ledger or of the caller that must stay -/
def Src (G : GX) (X : FX) (σ : AS) (iter : Expr) (items : List AV) (lk : Option Addr) : Prop :=
  ∀ (s : Shared) (K E : Value → Shared → Prop), At X σ s.heap →
    (∀ I fp wr P Stt h' tk, Walks G.prog G.w X.A I fp wr items.length P Stt → Stt 0 h' → (∀ i w, i < items.length → P i w → ∃ v, items[i]? = some v ∧ v.Is w) →
      (∀ b ∈ fp, s.heap.get? b = none ∨ (lk = some b ∧ b ∉ wr)) → (∀ b ∈ wr, s.heap.get? b = none) → (∀ i h, Stt i h → ∀ b ∈ fp, ∃ o, h.get? b = some o) →
      (∀ b o, s.heap.get? b = some o → h'.get? b = some o) → K (.ref I) { s with heap := h', toks := tk }) →
    wpAny G.M X.A (eval iter X.env) (fun xv s₁ => wpAny G.M X.A (pyIter xv) K E s₁) E s

section
variable {G : GX} {X : FX} {σ : AS} {R : Fl → AS → Prop} {x : Str} {pos px : Pos} {iter : Expr} {body : List Stmt}
/-- for over a source, by an invariant -/
theorem St.forI {items : List AV} {lk : Option Addr} (J : Nat → AS → Prop) (ok : X.Ok G) (hx : X.cs.names.lookup x = some .local) (src : Src G X σ iter items lk)
    (hl : ∀ l, lk = some l → (∃ o, X.h₀.get? l = some o) ∨ ∃ o, ∀ i τ, J i τ → (l, AO.obj o) ∈ τ.H)
    (h0 : J 0 σ)
    (turn : ∀ i τ v, items[i]? = some v → J i τ → Ss G X (τ.set x v) body fun f τ' => match f with | .next | .cont => J (i + 1) τ' | .brk => R .next τ' | .ret v => R (.ret v) τ')
    (done : ∀ τ, J items.length τ → R .next τ) (hs : ∀ x, foldedSetIterable iter X.env x = pure x := by intro _; rfl) : St G X σ (.For (.Name x px) iter body [] pos) R := by
  intro s Q E ha hQ
  refine wpAny_For (src s _ _ ha fun I fp wr P Stt h₁ tk₁ W st0 hP hfp hwr hlive hk₁ => ?_) hs
  have ha₁ : At X σ h₁ := ha.keep hk₁
  have hwrL : X.L ∉ wr := fun hm => by obtain ⟨o, e⟩ := ha.live; rw [hwr _ hm] at e; cases e
  have hfpL : X.L ∉ fp := fun hm => by
    obtain ⟨oL, eL⟩ := ha.live
    rcases hfp _ hm with e | ⟨e, _⟩
    · rw [e] at eL; cases eL
    · rcases hl _ e with ⟨o, e2⟩ | ⟨o, e2⟩
      · obtain ⟨m, F, _⟩ := ha.fr
        exact absurd (Nat.lt_of_lt_of_le (Heap.lt_size e2) F.above) (Nat.lt_irrefl _)
      · obtain ⟨_, _, _, h3, _⟩ := ha.hp _ (e2 0 σ h0)
        exact h3 rfl
  have hwr0 : ∀ b ∈ wr, X.h₀.get? b = none := fun b hb => by
    cases q : X.h₀.get? b with
    | none => rfl
    | some o => have := hwr b hb; rw [ha.old q] at this; cases this
  have hd0 : ∀ b ∈ fp, s.heap.get? b = none → b ∉ σ.H.map (·.1) := by
    intro b _ e hm
    obtain ⟨p, hp, e2⟩ := List.mem_map.mp hm
    obtain ⟨o, h1, _⟩ := ha.hp p hp
    have e3 : p.1 = b := e2
    rw [e3, e] at h1
    cases h1
  refine codeAny_forLoop (fun k s' => ∃ h' tk τ i, s' = { s with heap := h', toks := tk } ∧ At X τ h' ∧ Step X σ.H s.heap τ.H h' ∧ Stt i h' ∧ (∀ b ∈ fp, s.heap.get? b = none → b ∉ τ.H.map (·.1)) ∧ J i τ ∧ i ≤ items.length ∧ k = items.length + 1 - i) ?_ (items.length + 1)
    ⟨h₁, tk₁, σ, 0, rfl, ha₁, .keep hk₁, st0, hd0, h0, Nat.zero_le _, rfl⟩
  rintro k s' ⟨h', tk, τ, i, rfl, a, z, st, hfr, hJ, hi, rfl⟩
  have hwd : ∀ b ∈ wr, b ∉ τ.H.map (·.1) := fun b hb => hfr b (W.sub b hb) (hwr b hb)
  by_cases hlt : i < items.length
  · refine W.item i _ _ _ hlt st fun w h₂ tk₂ hPw st₂ hk₂ => ?_
    obtain ⟨v, hv, hi'⟩ := hP i w hlt hPw
    have a₂ : At X τ h₂ := a.keepBut hk₂ hwrL hwr0 hwd
    have z₂ : Step X σ.H s.heap τ.H h₂ := ⟨fun b o e hL hd => hk₂ b o (fun hb => by rw [hwr b hb] at e; cases e) (z.fr b o e hL hd), z.dm⟩
    refine wpAny_assign_Name ?_
    obtain ⟨m, F, hm⟩ := a₂.fr
    refine wpAny_storeName_local (env := X.env) hx F.ns (fun h₃ hn hs => ?_) (by
      show (X.cs.kind == .class || (X.cs.kind == .module && X.L != mainGlobals)) = false
      rw [ok.fn]; rfl)
    have a₃ : At X (τ.set x v) h₃ := a₂.store F hm hn hs hi'
    have z₃ : Step X σ.H s.heap τ.H h₃ := z₂.trans (σ₂ := τ.set x v) (.frame hs) a₃
    have st₃ : Stt (i + 1) h₃ := W.frame _ _ _ st₂ fun b hb o e => (hs.2 b fun q => hfpL ((show b = X.L from q) ▸ hb)).trans e
    refine turn i τ v hv hJ _ _ _ a₃ fun f fl h₄ tk₄ τ' a₄ z₄ hf hR => ?_
    have z' : Step X σ.H s.heap τ'.H h₄ := z₃.trans z₄ a₄
    have back : J (i + 1) τ' → ∃ m, m < items.length + 1 - i ∧ ∃ h' tk τ j, ({ s with heap := h₄, toks := tk₄ } : Shared) = { s with heap := h', toks := tk } ∧ At X τ h' ∧ Step X σ.H s.heap τ.H h' ∧ Stt j h' ∧ (∀ b ∈ fp, s.heap.get? b = none → b ∉ τ.H.map (·.1)) ∧ J j τ ∧ j ≤ items.length ∧ m = items.length + 1 - j := by
      intro hJ'
      refine ⟨items.length + 1 - (i + 1), by omega, h₄, tk₄, τ', i + 1, rfl, a₄, z', ?_, ?_, hJ', hlt, rfl⟩
      · refine W.frame _ _ _ st₃ fun b hb o e => ?_
        rcases hfp b hb with e1 | ⟨e1, _⟩
        · exact z₄.fr b o e (fun q => hfpL (q ▸ hb)) (hfr b hb e1)
        · rcases hl _ e1 with ⟨o1, e2⟩ | ⟨o1, e2⟩
          · have e3 := a₃.old e2
            rw [e] at e3; cases e3
            exact a₄.old e2
          · have e3 := a₃.objAt (e2 i τ hJ)
            rw [e] at e3; cases e3
            exact a₄.objAt (e2 (i + 1) τ' hJ')
      · intro b hb e1 hm
        obtain ⟨p, hp, e2⟩ := List.mem_map.mp hm
        have e3 : p.1 = b := e2
        rcases z₄.dm p hp with q | q
        · exact hfr b hb e1 (e3 ▸ q)
        · obtain ⟨o, e4⟩ := hlive _ _ st₃ b hb
          have q' : h₃.get? p.1 = none := q
          rw [e3, e4] at q'; cases q'
    cases f with
    | next => cases hf; exact back hR
    | cont => cases hf; exact back hR
    | brk => cases hf; exact hQ .next .next h₄ tk₄ τ' a₄ z' rfl hR
    | ret v => obtain ⟨w, rfl, iw⟩ := hf; exact hQ (.ret v) (.ret w) h₄ tk₄ τ' a₄ z' ⟨w, rfl, iw⟩ hR
  · have hin : i = items.length := by omega
    subst hin
    refine W.done _ _ _ st fun h₂ tk₂ hk₂ => wpAny_execs_nil ?_
    have a₂ : At X τ h₂ := a.keepBut hk₂ hwrL hwr0 hwd
    exact hQ .next .next h₂ tk₂ τ a₂ ⟨fun b o e hL hd => hk₂ b o (fun hb => by rw [hwr b hb] at e; cases e) (z.fr b o e hL hd), z.dm⟩ rfl (done τ hJ)
end

/-- a list that can be read -/
def LAt (X : FX) (H : AH) (a : Addr) (vs : List AV) : Prop :=
  (a, AO.list vs) ∈ H ∨ (∃ o, (a, AO.obj o) ∈ H ∧ (AO.list vs).Is o) ∨ ∃ ws, X.h₀.IsList a ws.toArray ∧ AllIs vs ws
section
variable {G : GX} {X : FX} {σ : AS} {h : Heap} {a : Addr} {vs : List AV}
theorem LAt.isList (hl : LAt X σ.H a vs) (ha : At X σ h) : ∃ ws, h.IsList a ws.toArray ∧ AllIs vs ws := by
  rcases hl with hm | ⟨o, hm, ws, n, e, hi⟩ | ⟨ws, hl, hi⟩
  · obtain ⟨o, h1, ⟨ws, n, e, hi⟩, _⟩ := ha.hp _ hm
    exact ⟨ws, ⟨o, h1, by rw [e], n, by rw [e]⟩, hi⟩
  · exact ⟨ws, ⟨o, ha.objAt hm, by rw [e], n, by rw [e]⟩, hi⟩
  · obtain ⟨m, F, _⟩ := ha.fr
    exact ⟨ws, hl.at fun o e => F.keep a o e, hi⟩
theorem LAt.live (hl : LAt X σ.H a vs) (ha : At X σ h) : ∃ o, h.get? a = some o := by
  obtain ⟨ws, ⟨o, e, _⟩, _⟩ := hl.isList ha
  exact ⟨o, e⟩

theorem Src.list {iter : Expr} (hl : LAt X σ.H a vs) (he : Ev G X σ iter (.val (.ref a))) : Src G X σ iter vs (some a) := by
  intro s K E ha hK
  refine he s _ _ ha fun w tk e => ?_
  cases e
  obtain ⟨ws, il, hi⟩ := hl.isList ha
  obtain ⟨oa, ea⟩ := hl.live ha
  refine wpAny_pyIter_list il ?_
  have hne : a ≠ s.heap.objs.size := Nat.ne_of_lt (Heap.lt_size ea)
  have W := Walks.list (prog := G.prog) (w := G.w) (A := X.A) rfl s.heap.objs.size a hne ws.toArray
  rw [show ws.toArray.size = vs.length from by simp [hi.length]] at W
  refine hK _ _ _ _ _ _ _ W ⟨⟨_, Heap.get?_push_size _ rfl, rfl, rfl⟩, il.at fun o e => Heap.get?_push_of_some _ e⟩ (fun i w _ hw => hi.get' (by simpa using hw)) ?_ ?_ ?_ (fun _ _ e => Heap.get?_push_of_some _ e)
  · intro b hb
    rcases List.mem_cons.mp hb with rfl | hb
    · exact .inl (get_size _)
    · cases List.mem_singleton.mp hb
      exact .inr ⟨rfl, fun hm => hne (List.mem_singleton.mp hm)⟩
  · intro b hb; cases List.mem_singleton.mp hb; exact get_size _
  · rintro i h ⟨⟨o, e, _⟩, ⟨o', e', _⟩⟩ b hb
    rcases List.mem_cons.mp hb with rfl | hb
    · exact ⟨o, e⟩
    · cases List.mem_singleton.mp hb; exact ⟨o', e'⟩
end
end Mine
namespace Mine
open PySem PySem.W PyProof.Rows PySem.Spec PySem.Calls
open PySem.Builtin.Int (intBits)

/-- every object that stands, but the frame's own and the ground's -/
def allNews (h₀ : Heap) (L : Addr) (h : Heap) : List (Addr × Obj) :=
  (List.range h.objs.size).filterMap fun b => match h.get? b with
    | some o => if (h₀.get? b).isNone && b != L then some (b, o) else none
    | none => none
theorem mem_allNews {h₀ h : Heap} {L b : Addr} {o : Obj} : (b, o) ∈ allNews h₀ L h ↔ h.get? b = some o ∧ b ≠ L ∧ h₀.get? b = none := by
  unfold allNews
  rw [List.mem_filterMap]
  constructor
  · rintro ⟨c, _, e⟩
    split at e
    · rename_i o' h1
      split at e
      · rename_i h2
        cases e
        simp only [Bool.and_eq_true, Option.isNone_iff_eq_none, bne_iff_ne] at h2
        exact ⟨h1, h2.2, h2.1⟩
      · cases e
    · cases e
  · rintro ⟨h1, h2, h3⟩
    refine ⟨b, List.mem_range.mpr (Heap.lt_size h1), ?_⟩
    rw [h1]
    simp only
    rw [if_pos (by simp [h2, h3])]
theorem allNews_news (h₀ h : Heap) (L : Addr) : News h₀ L h (allNews h₀ L h) := fun p hp => mem_allNews.mp (show (p.1, p.2) ∈ _ from hp)

def retv : Fl → AV
  | .ret v => v
  | _ => .val .none
/-- a call's promise -/
def CallS (G : GX) (X : FX) (σ : AS) (f : Value) (vs : List AV) (R : AV → AH → Prop) : Prop :=
  ∀ (s : Shared) (ws : List Value) (Q E : Value → Shared → Prop), At X σ s.heap → AllIs vs ws →
    (∀ w v h' tk H', At X { σ with H := H' } h' → Step X σ.H s.heap H' h' → v.Is w → R v H' → Q w { s with heap := h', toks := tk }) → wpAny G.M X.A (call f ws) Q E s
theorem CallS.mono {G : GX} {X : FX} {σ : AS} {f : Value} {vs : List AV} {R R' : AV → AH → Prop} (h : CallS G X σ f vs R) (k : ∀ v H, R v H → R' v H) : CallS G X σ f vs R' :=
  fun s ws Q E ha hi hQ => h s ws Q E ha hi fun w v h' tk H' a z i r => hQ w v h' tk H' a z i (k _ _ r)

def subX (X : FX) (qual : Str) (scope : Scope) (f : Addr) (cdv : Value) (cl : List (Str × Addr)) (g : Heap) (L' : Addr) : FX :=
  { dp := X.dp + 1, un := X.un + 3, gd := X.gd, cn := qual, cs := scope, L := L', a := f, ccd := cdv, cl := cl, outer := X.env :: X.outer, A₀ := X.A, base := X.base, h₀ := g }
def BIs : List (Str × AV) → List (Str × Value) → Prop
  | [], [] => True
  | p :: r, q :: s => (p.1 = q.1 ∧ p.2.Is q.2) ∧ BIs r s
  | _, _ => False
theorem BIs.append : ∀ {a c : List (Str × AV)} {b d : List (Str × Value)}, BIs a b → BIs c d → BIs (a ++ c) (b ++ d)
  | [], _, [], _, _, h => h
  | _ :: _, _, _ :: _, _, h, k => ⟨h.1, BIs.append h.2 k⟩
theorem BIs.reverse : ∀ {a : List (Str × AV)} {b : List (Str × Value)}, BIs a b → BIs a.reverse b.reverse
  | [], [], _ => trivial
  | _ :: _, _ :: _, h => by
    rw [List.reverse_cons, List.reverse_cons]
    exact BIs.append (BIs.reverse h.2) ⟨h.1, trivial⟩
theorem BIs.lookup : ∀ {a : List (Str × AV)} {b : List (Str × Value)} {x : Str} {v : AV}, BIs a b → a.lookup x = some v → ∃ w, b.lookup x = some w ∧ v.Is w
  | [], _, _, _, _, e => by simp at e
  | (n, a) :: as, (n', w) :: ws, x, v, h, e => by
    obtain ⟨⟨h1, h2⟩, h3⟩ := h
    simp only at h1
    subst h1
    simp only [List.lookup_cons] at e ⊢
    cases hb : x == n with
    | true => rw [hb] at e; cases e; exact ⟨w, rfl, h2⟩
    | false => rw [hb] at e; exact BIs.lookup h3 e
theorem BIs.zip : ∀ (names : List Str) {args : List AV} {ws : List Value}, AllIs args ws → BIs (names.zip args) (names.zip ws)
  | [], _, _, _ => by simp [BIs]
  | _ :: _, [], [], _ => by simp [BIs]
  | n :: ns, _ :: _, _ :: _, h => ⟨⟨rfl, h.1⟩, BIs.zip ns h.2⟩

section
variable {G : GX} {X : FX} {σ : AS} {R : AV → AH → Prop} {name qual : Str} {params : Arguments} {body : List Stmt} {scope : Scope} {cl : List (Str × Addr)} {dV kV doc pm cdv ct : Value} {an : Option Addr} {f : Addr} {args : List AV} {names : List Str}

/-- what the caller has when the callee's frame is left -/
theorem leave_step {g h₁ h' : Heap} {L' : Addr} {m : Str → Option Value} {s : Shared} {X' : FX} {σ' : AS} {H₁ : AH} (hH₁ : ∀ p ∈ H₁, p.1 ∈ σ.H.map (·.1) ∨ s.heap.get? p.1 = none) (hL' : X'.L = L') (hg : X'.h₀ = g)
    (ha : At X σ s.heap) (hm : ∀ x v, σ.m.lookup x = some v → ∃ w, m x = some w ∧ v.Is w) (FG : Fr X.h₀ X.L g m) (st : X.h₀.StaysIn g) (N₁ : News g L' h₁ (allNews X.h₀ X.L s.heap)) (a' : At X' σ' h') (z : Step X' H₁ h₁ σ'.H h') :
    ∃ m' news', Fr g L' h' m' ∧ News g L' h' news' ∧ (Fr X.h₀ X.L h' m → News X.h₀ X.L h' news' → At X { σ with H := σ'.H } h' ∧ Step X σ.H s.heap σ'.H h') := by
  subst hL' hg
  obtain ⟨m', F', _⟩ := a'.fr
  obtain ⟨news', N', _, k1, _⟩ := a'.news
  refine ⟨m', news', F', N', fun F2 N2 => ⟨⟨⟨m, F2, hm⟩, fun p hp => ?_, a'.nd⟩, ⟨fun b o e hL hd => ?_, fun p hp => ?_⟩⟩⟩
  · obtain ⟨o, hmem, hi⟩ := k1 p hp
    have q := N2 _ hmem
    exact ⟨o, q.1, hi, q.2.1, q.2.2⟩
  · cases q : X.h₀.get? b with
    | some o' =>
      have e2 := ha.old q
      rw [e] at e2; cases e2
      exact F2.keep b _ q
    | none =>
      have q1 := N₁ (b, o) (mem_allNews.mpr ⟨e, hL, q⟩)
      refine z.fr b o q1.1 q1.2.1 fun hm1 => ?_
      obtain ⟨p, hp, e2⟩ := List.mem_map.mp hm1
      have e3 : p.1 = b := e2
      rcases hH₁ p hp with q2 | q2
      · exact hd (e3 ▸ q2)
      · rw [e3, e] at q2; cases q2
  · rcases z.dm p hp with q | q
    · obtain ⟨r, hr, e2⟩ := List.mem_map.mp q
      have e3 : r.1 = p.1 := e2
      exact e3 ▸ hH₁ r hr
    · refine .inr ?_
      obtain ⟨_, _, _, hpL, hpg⟩ := a'.hp p hp
      cases e : s.heap.get? p.1 with
      | none => rfl
      | some o =>
        by_cases hL : p.1 = X.L
        · obtain ⟨oL, _, _, e2, _⟩ := FG.ns
          rw [hL, e2] at hpg; cases hpg
        · cases q0 : X.h₀.get? p.1 with
          | some o' => rw [st _ _ q0] at hpg; cases hpg
          | none =>
            have q1 := (N₁ (p.1, o) (mem_allNews.mpr ⟨e, hL, q0⟩)).1
            rw [q1] at q; cases q

theorem sub_at {g h₁ : Heap} {L' : Addr} {s : Shared} (ha : At X σ s.heap) (N₁ : News g L' h₁ (allNews X.h₀ X.L s.heap)) : ∀ p ∈ σ.H, ∃ o, h₁.get? p.1 = some o ∧ p.2.Is o ∧ p.1 ≠ L' ∧ g.get? p.1 = none := fun p hp => by
  obtain ⟨o, e1, e2, e3, e4⟩ := ha.hp p hp
  have q := N₁ (p.1, o) (mem_allNews.mpr ⟨e1, e3, e4⟩)
  exact ⟨o, q.1, e2, q.2.1, q.2.2⟩

theorem CallS.func {fo : Obj} (ok : X.Ok G) (ho : ∀ h, At X σ h → h.get? f = some fo ∧ h.CodeRec cdv qual) (hd : fo.data = .func (fnX name qual params body scope cl dV kV doc pm an cdv ct)) (hroom : X.dp < recursionLimit)
    (hn : names.length = args.length) (hbind : ∀ ws : List Value, ws.length = args.length → bindArgs (fnX name qual params body scope cl dV kV doc pm an cdv ct) ⟨ws, []⟩ = pure (names.zip ws)) (hloc : ∀ y ∈ names, scope.names.lookup y = some .local)
    (h : ∀ g L', X.h₀.StaysIn g → (subX X qual scope f cdv cl g L').Ok G → Ss G (subX X qual scope f cdv cl g L') ⟨(names.zip args).reverse, σ.H⟩ body fun fl σ' => R (retv fl) σ'.H)
    (hcell : ∀ x ∈ scope.names, x.2 ≠ .cell := by decide) (hco : scope.isCoroutine = false := by rfl) (hgen : scope.isGenerator = false := by rfl) (hk : scope.kind = .function := by rfl) : CallS G X σ (.ref f) args R := by
  intro s ws Q E ha hi hQ
  obtain ⟨m, F, hm⟩ := ha.fr
  refine wpAny_call ?_
  refine callX_plain (A := X.A) (env := X.env) (cl := cl) (binds := names.zip ws) ok.below F (allNews_news X.h₀ s.heap X.L) ok.top.nolimit rfl rfl ok.fn (ho _ ha).1 hd (ho _ ha).2 hroom (BindsTo.of_eq (hbind ws hi.length)) (fun y hy => hloc y.1 (List.of_mem_zip hy).1) (fun g L' h₁ FG F₁ N₁ B₁ st _ => ?_) hcell hco hgen hk
  have ok' : (subX X qual scope f cdv cl g L').Ok G := ⟨B₁, ok.kin.keeps st, ok.top.keeps st, hk⟩
  have a₁ : At (subX X qual scope f cdv cl g L') ⟨(names.zip args).reverse, σ.H⟩ h₁ := ⟨⟨_, F₁, fun x v e => (BIs.zip names hi).reverse.lookup e⟩, sub_at (σ := σ) ha N₁, ha.nd⟩
  refine h g L' st ok' _ _ _ a₁ fun fl flow h' tk σ' a' z hf hR => ?_
  obtain ⟨m', news', F', N', hl⟩ := leave_step (X' := subX X qual scope f cdv cl g L') (fun p hp => .inl (List.mem_map_of_mem hp)) rfl rfl ha hm FG st N₁ a' z
  refine leaveK_ F' N' fun F2 N2 => ?_
  obtain ⟨a2, z2⟩ := hl F2 N2
  refine hQ _ (retv fl) h' tk σ'.H a2 z2 ?_ hR
  cases fl with
  | next => cases hf; exact rfl
  | brk => cases hf; exact rfl
  | cont => cases hf; exact rfl
  | ret v => obtain ⟨w, rfl, iw⟩ := hf; exact iw

/-- a def of the text, without captured names -/
theorem CallS.def {oc : Value} {od : Option Addr} {osl : Array (Option Value)} (ok : X.Ok G) (ho : G.K.lookup f = some ⟨oc, od, .func (fnX name qual params body scope [] dV kV doc pm an cdv ct), osl⟩) (hcd : codeIn G.K cdv qual = true) (hroom : X.dp < recursionLimit)
    (hn : names.length = args.length) (hbind : ∀ ws : List Value, ws.length = args.length → bindArgs (fnX name qual params body scope [] dV kV doc pm an cdv ct) ⟨ws, []⟩ = pure (names.zip ws)) (hloc : ∀ y ∈ names, scope.names.lookup y = some .local)
    (h : ∀ g L', X.h₀.StaysIn g → (subX X qual scope f cdv [] g L').Ok G → Ss G (subX X qual scope f cdv [] g L') ⟨(names.zip args).reverse, σ.H⟩ body fun fl σ' => R (retv fl) σ'.H)
    (hcell : ∀ x ∈ scope.names, x.2 ≠ .cell := by decide) (hco : scope.isCoroutine = false := by rfl) (hgen : scope.isGenerator = false := by rfl) (hk : scope.kind = .function := by rfl) : CallS G X σ (.ref f) args R := by
  refine CallS.func (fo := ⟨oc, od, .func (fnX name qual params body scope [] dV kV doc pm an cdv ct), osl⟩) ok (fun h ha => ?_) rfl hroom hn hbind hloc h hcell hco hgen hk
  obtain ⟨m, F, _⟩ := ha.fr
  have K' := ok.kin.keeps F.keep
  exact ⟨K' _ _ ho, codeRec_of K' hcd⟩

theorem CallS.sub {f : Value} {vs : List AV} {R' : AV → AH → Prop} (h : CallS G X σ f vs R) (k : ∀ v H, R v H → ∃ H', Sub H' H ∧ R' v H') : CallS G X σ f vs R' :=
  fun s ws Q E ha hi hQ => h s ws Q E ha hi fun w v h' tk H' a z i r => by
    obtain ⟨H2, hs, r2⟩ := k v H' r
    exact hQ w v h' tk H2 (a.sub (σ' := { σ with H := H2 }) (fun _ _ e => e) hs) (z.sub hs.mem) i r2

def CellV : Option AV → Option Value → Prop
  | none, none => True
  | some v, some w => v.Is w
  | _, _ => False
def cellsOf (cs : List (Str × Addr)) (cv : Str → Option AV) : AH := cs.map fun q => (q.2, AO.cell (cv q.1))
theorem cellsOf_are {cm : Str → Option Value} {cv : Str → Option AV} {cs : List (Str × Addr)} {cells : List (Addr × Obj)} (h : CellsAre cm cs cells) (hv : ∀ q ∈ cs, CellV (cv q.1) (cm q.1)) : ∀ p ∈ cellsOf cs cv, ∃ o, (p.1, o) ∈ cells ∧ p.2.Is o := by
  induction h with
  | nil => intro p hp; cases hp
  | @cons n c o cs cells hd _ ih =>
    intro p hp
    rcases List.mem_cons.mp hp with rfl | hp
    · refine ⟨o, .head _, ?_⟩
      have q := hv (n, c) (.head _)
      show (AO.cell (cv n)).Is o
      simp only at q
      cases e : cv n with
      | none =>
        rw [e] at q
        cases e2 : cm n with
        | none => rw [e2] at hd; exact hd
        | some w => rw [e2] at q; cases q
      | some v =>
        rw [e] at q
        cases e2 : cm n with
        | none => rw [e2] at q; cases q
        | some w => rw [e2] at q hd; exact ⟨w, hd, q⟩
    · obtain ⟨o', m', i'⟩ := ih (fun q hq => hv q (.tail _ hq)) p hp
      exact ⟨o', .tail _ m', i'⟩
/-- a def whose names are captured by a def within -/
theorem CallS.defC {oc : Value} {od : Option Addr} {osl : Array (Option Value)} (ms : List (Str × AV)) (cv : Str → Option AV) (ok : X.Ok G) (ho : G.K.lookup f = some ⟨oc, od, .func (fnX name qual params body scope [] dV kV doc pm an cdv ct), osl⟩) (hcd : codeIn G.K cdv qual = true) (hroom : X.dp < recursionLimit)
    (hbind : ∀ ws : List Value, ws.length = args.length → bindArgs (fnX name qual params body scope [] dV kV doc pm an cdv ct) ⟨ws, []⟩ = pure (names.zip ws))
    (hkind : ∀ n, ∀ x ∈ names, scope.names.lookup x = some .local ∨ (scope.names.lookup x = some .cell ∧ ((cellsFrom n scope.names []).lookup x).isSome = true)) (hnd : ((cellsFrom 0 scope.names []).map (·.1)).Nodup)
    (hnd2 : ∀ L', ((cellsFrom (L' + 1) scope.names []).map (·.2)).Nodup) (hgt : ∀ L', ∀ q ∈ cellsFrom (L' + 1) scope.names [], L' < q.2)
    (hm1 : ∀ L' (ws : List Value), AllIs args ws → ∀ x v, ms.lookup x = some v → ∃ w, bindL (envOfC qual scope L' f cdv).kindOf (names.zip ws) (fun _ => none) x = some w ∧ v.Is w)
    (hm2 : ∀ L' (ws : List Value), AllIs args ws → ∀ q ∈ cellsFrom (L' + 1) scope.names [], CellV (cv q.1) (bindC (envOfC qual scope L' f cdv).kindOf (names.zip ws) (fun _ => none) q.1))
    (h : ∀ g L', X.h₀.StaysIn g → (subX X qual scope f cdv (cellsFrom (L' + 1) scope.names []) g L').Ok G → Ss G (subX X qual scope f cdv (cellsFrom (L' + 1) scope.names []) g L') ⟨ms, cellsOf (cellsFrom (L' + 1) scope.names []) cv ++ σ.H⟩ body fun fl σ' => R (retv fl) σ'.H)
    (hco : scope.isCoroutine = false := by rfl) (hgen : scope.isGenerator = false := by rfl) (hk : scope.kind = .function := by rfl) : CallS G X σ (.ref f) args R := by
  intro s ws Q E ha hi hQ
  obtain ⟨m, F, hm⟩ := ha.fr
  have K' := ok.kin.keeps F.keep
  refine wpAny_call ?_
  refine callX_cells (A := X.A) (env := X.env) (binds := names.zip ws) ok.below F (allNews_news X.h₀ s.heap X.L) ok.top.nolimit rfl rfl ok.fn (K' _ _ ho) rfl (codeRec_of K' hcd) hroom (BindsTo.of_eq (hbind ws hi.length)) (fun n y hy => hkind n y.1 (List.of_mem_zip hy).1) hnd (fun g L' h₁ tk cells FG F₁ N₁ Y B₁ st lt => ?_) hco hgen hk
  have ok' : (subX X qual scope f cdv (cellsFrom (L' + 1) scope.names []) g L').Ok G := ⟨B₁, ok.kin.keeps st, ok.top.keeps st, hk⟩
  have N₂ : News g L' h₁ (allNews X.h₀ X.L s.heap) := fun p hp => N₁ p (List.mem_append_right _ hp)
  have hc := cellsOf_are (cv := cv) Y (hm2 L' ws hi)
  have a₁ : At (subX X qual scope f cdv (cellsFrom (L' + 1) scope.names []) g L') ⟨ms, cellsOf (cellsFrom (L' + 1) scope.names []) cv ++ σ.H⟩ h₁ := by
    refine ⟨⟨_, F₁, hm1 L' ws hi⟩, fun p hp => ?_, ?_⟩
    · rcases List.mem_append.mp hp with q | q
      · obtain ⟨o, m', i'⟩ := hc p q
        have q2 := N₁ _ (List.mem_append_left _ m')
        exact ⟨o, q2.1, i', q2.2.1, q2.2.2⟩
      · exact sub_at (σ := σ) ha N₂ p q
    · rw [List.map_append, List.nodup_append]
      refine ⟨?_, ha.nd, fun a h1 b h2 e => ?_⟩
      · have := hnd2 L'
        rw [cellsOf, List.map_map]
        exact this
      · obtain ⟨p, hp, e1⟩ := List.mem_map.mp h1
        obtain ⟨q, hq, rfl⟩ := List.mem_map.mp hp
        obtain ⟨r, hr, e2⟩ := List.mem_map.mp h2
        obtain ⟨o, e3, _, e4, e5⟩ := ha.hp r hr
        have l1 := lt (r.1, o) (mem_allNews.mpr ⟨e3, e4, e5⟩)
        have l2 := hgt L' q hq
        have e6 : q.2 = r.1 := by rw [show q.2 = a from e1, e, ← e2]
        rw [e6] at l2
        exact absurd (Nat.lt_trans l1 l2) (Nat.lt_irrefl _)
  refine h g L' st ok' _ _ _ a₁ fun fl flow h' tk σ' a' z hf hR => ?_
  have hH₁ : ∀ p ∈ cellsOf (cellsFrom (L' + 1) scope.names []) cv ++ σ.H, p.1 ∈ σ.H.map (·.1) ∨ s.heap.get? p.1 = none := by
    intro p hp
    rcases List.mem_append.mp hp with q | q
    · refine .inr ?_
      obtain ⟨o, m', _⟩ := hc p q
      have q2 := N₁ _ (List.mem_append_left _ m')
      obtain ⟨r, hr, e1⟩ := List.mem_map.mp q
      have l2 := hgt L' r hr
      have e2 : r.2 = p.1 := by rw [← e1]
      cases e : s.heap.get? p.1 with
      | none => rfl
      | some o' =>
        exfalso
        by_cases hL : p.1 = X.L
        · obtain ⟨oL, _, _, e3, _⟩ := FG.ns
          have q3 := q2.2.2
          rw [show (p.1, o).1 = X.L from hL, e3] at q3; cases q3
        · cases q0 : X.h₀.get? p.1 with
          | some o2 => have q3 := q2.2.2; rw [st _ _ q0] at q3; cases q3
          | none =>
            have l1 := lt (p.1, o') (mem_allNews.mpr ⟨e, hL, q0⟩)
            rw [e2] at l2
            exact absurd (Nat.lt_trans l1 l2) (Nat.lt_irrefl _)
    · exact .inl (List.mem_map_of_mem q)
  obtain ⟨m', news', F', N', hl⟩ := leave_step (X' := subX X qual scope f cdv (cellsFrom (L' + 1) scope.names []) g L') hH₁ rfl rfl ha hm FG st N₂ a' z
  refine leaveK_ F' N' fun F2 N2 => ?_
  obtain ⟨a2, z2⟩ := hl F2 N2
  refine hQ _ (retv fl) h' tk σ'.H a2 z2 ?_ hR
  cases fl with
  | next => cases hf; exact rfl
  | brk => cases hf; exact rfl
  | cont => cases hf; exact rfl
  | ret v => obtain ⟨w, rfl, iw⟩ := hf; exact iw
end
end Mine
namespace Mine
open PySem PySem.W PyProof.Rows PySem.Spec PySem.Calls
open PySem.Builtin.Int (intBits)

/-- arguments, elements: pure ones -/
def EvL (G : GX) (X : FX) (σ : AS) (es : List Expr) (vs : List AV) : Prop :=
  ∀ (s : Shared) (pos : Pos) (Q : List Value → Shared → Prop) (E : Value → Shared → Prop), At X σ s.heap → (∀ ws tk, AllIs vs ws → Q ws { s with toks := tk }) → wpAny G.M X.A (spliced (backTo pos (starEach es X.env))) Q E s
def ExL (G : GX) (X : FX) (σ : AS) (es : List Expr) (R : List AV → AH → Prop) : Prop :=
  ∀ (s : Shared) (pos : Pos) (Q : List Value → Shared → Prop) (E : Value → Shared → Prop), At X σ s.heap → (∀ ws vs h' tk H', At X { σ with H := H' } h' → Step X σ.H s.heap H' h' → AllIs vs ws → R vs H' → Q ws { s with heap := h', toks := tk }) → wpAny G.M X.A (spliced (backTo pos (starEach es X.env))) Q E s
section
variable {G : GX} {X : FX} {σ : AS} {R : AV → AH → Prop} {e : Expr} {es : List Expr} {v : AV} {vs : List AV} {pos p : Pos} {f : Str}
theorem EvL.nil : EvL G X σ [] [] := fun s _ _ _ _ hQ => wpAny_items_nil (hQ [] s.toks trivial)
theorem EvL.cons (h : Ev G X σ e v) (k : EvL G X σ es vs) (he : starEach (e :: es) X.env = (false, eval e X.env) :: starEach es X.env := by rfl) : EvL G X σ (e :: es) (v :: vs) := by
  intro s pos Q E ha hQ
  refine wpAny_items_cons (h s _ _ ha fun w tk i => ?_) he
  exact k _ _ _ _ ha fun ws tk' is => hQ _ tk' ⟨i, is⟩
theorem EvL.toX {R : List AV → AH → Prop} (h : EvL G X σ es vs) (hR : R vs σ.H) : ExL G X σ es R := fun s pos _ _ ha hQ => h s pos _ _ ha fun ws tk hi => hQ ws vs s.heap tk σ.H ha .refl hi hR
theorem ExL.nil {R : List AV → AH → Prop} (hR : R [] σ.H) : ExL G X σ [] R := EvL.nil.toX hR
theorem ExL.cons {R₁ : AV → AH → Prop} {R : List AV → AH → Prop} (h : Ex G X σ e R₁) (k : ∀ v H, R₁ v H → ExL G X { σ with H := H } es fun vs H' => R (v :: vs) H') (he : starEach (e :: es) X.env = (false, eval e X.env) :: starEach es X.env := by rfl) : ExL G X σ (e :: es) R := by
  intro s pos Q E ha hQ
  refine wpAny_items_cons (h s _ _ ha fun w v h' tk H' a z i r => ?_) he
  exact k v H' r _ _ _ _ a fun ws vs h'' tk' H'' a' z' is r' => hQ (w :: ws) (v :: vs) h'' tk' H'' a' (z.trans z' a') ⟨i, is⟩ r'

theorem Ex.callB {id : String} (hf : Ev G X σ (.Name f p) (.val (.builtin id))) (ha : ExL G X σ (e :: es) fun vs H => CallS G X { σ with H := H } (.builtin id) vs R)
    (he : starEach (e :: es) X.env = (false, eval e X.env) :: starEach es X.env := by rfl) (hplain : (backTo pos (starEach es X.env)).any (·.1) = false := by rfl) : Ex G X σ (.Call (.Name f p) (e :: es) [] pos) R := by
  intro s Q E a hQ
  refine wpAny_Call_NameR (hf s _ _ a fun w tk i => ?_)
  cases i
  refine callWith_builtin1 (ha _ _ _ _ a fun ws vs h' tk' H' a' z is r => ?_) he hplain
  exact r _ _ _ _ a' is fun w v h'' tk'' H'' a'' z'' i'' r'' => hQ w v h'' tk'' H'' a'' (z.trans z'' a'') i'' r''
theorem Ex.callT {T : String} (hf : Ev G X σ (.Name f p) (.val (.type T))) (ha : ExL G X σ (e :: es) fun vs H => CallS G X { σ with H := H } (.type T) vs R)
    (he : starEach (e :: es) X.env = (false, eval e X.env) :: starEach es X.env := by rfl) (hplain : (backTo pos (starEach es X.env)).any (·.1) = false := by rfl) : Ex G X σ (.Call (.Name f p) (e :: es) [] pos) R := by
  intro s Q E a hQ
  refine wpAny_Call_NameR (hf s _ _ a fun w tk i => ?_)
  cases i
  refine PyProof.Rows.callWith_type1 (ha _ _ _ _ a fun ws vs h' tk' H' a' z is r => ?_) he hplain
  exact r _ _ _ _ a' is fun w v h'' tk'' H'' a'' z'' i'' r'' => hQ w v h'' tk'' H'' a'' (z.trans z'' a'') i'' r''
theorem Ex.callK {fa : Addr} (ok : X.Ok G) (hf : Ev G X σ (.Name f p) (.val (.ref fa))) (hk : keepIn G.K (.ref fa) = true) (ha : ExL G X σ (e :: es) fun vs H => CallS G X { σ with H := H } (.ref fa) vs R)
    (he : starEach (e :: es) X.env = (false, eval e X.env) :: starEach es X.env := by rfl) (hplain : (backTo pos (starEach es X.env)).any (·.1) = false := by rfl) : Ex G X σ (.Call (.Name f p) (e :: es) [] pos) R := by
  intro s Q E a hQ
  refine wpAny_Call_NameR (hf s _ _ a fun w tk i => ?_)
  cases i
  refine callWith_K ok.kin hk (ha _ _ _ _ a fun ws vs h' tk' H' a' z is r => ⟨?_, ?_⟩) he hplain
  · obtain ⟨m, F, _⟩ := a'.fr
    exact ok.kin.keeps F.keep
  · exact r _ _ _ _ a' is fun w v h'' tk'' H'' a'' z'' i'' r'' => hQ w v h'' tk'' H'' a'' (z.trans z'' a'') i'' r''
theorem Ex.callF {fa : Addr} (hf : Ev G X σ (.Name f p) (.val (.ref fa))) (hk : ∀ h, At X σ h → FnAt fa h) (ha : EvL G X σ (e :: es) vs) (hc : CallS G X σ (.ref fa) vs R)
    (he : starEach (e :: es) X.env = (false, eval e X.env) :: starEach es X.env := by rfl) (hplain : (backTo pos (starEach es X.env)).any (·.1) = false := by rfl) : Ex G X σ (.Call (.Name f p) (e :: es) [] pos) R := by
  intro s Q E a hQ
  refine wpAny_Call_NameR (hf s _ _ a fun w tk i => ?_)
  cases i
  refine callWith_F (hk _ a) (ha _ _ _ _ a fun ws tk' is => ⟨hk _ a, ?_⟩) he hplain
  exact hc _ _ _ _ a is hQ

/-- divmod -/
theorem CallS.divmod {a b : Int} (hb : 0 < b) (hp : Builtin.divisionGoesByPylong a b = false) (hR : ∀ d, d ∉ σ.H.map (·.1) → R (.val (.ref d)) ((d, .tup [.int (a / b), .int (a % b)]) :: σ.H)) : CallS G X σ (.builtin "divmod") [.int a, .int b] R := by
  intro s ws Q E ha hi hQ
  match ws, hi with
  | [_, _], ⟨⟨t, e1⟩, ⟨u, e2⟩, _⟩ =>
    subst e1 e2
    refine divmod_int (by omega) ?_ (.inl hp)
    have a' := ha.push (ao := .tup [.int (a / b), .int (a % b)]) (o := { cls := .type "tuple", data := .seq #[.int (a.fdiv b) s.toks, .int (a.fmod b) (s.toks + 1)] }) rfl
      ⟨[.int (a.fdiv b) s.toks, .int (a.fmod b) (s.toks + 1)], 0, rfl, ⟨_, by rw [Int.fdiv_eq_ediv_of_nonneg _ (by omega)]⟩, ⟨_, by rw [Int.fmod_eq_emod_of_nonneg _ (by omega)]⟩, trivial⟩
    refine hQ _ (.val (.ref s.heap.objs.size)) _ _ _ a' .push rfl (hR _ fun hm => ?_)
    exact (List.nodup_cons.mp a'.nd).1 hm
/-- len of a list -/
theorem Ev.len {o : Expr} {a : Addr} (hf : Ev G X σ (.Name f p) (.val (.builtin "len"))) (ho : Ev G X σ o (.val (.ref a))) (hl : LAt X σ.H a vs) (hfit : vs.length < 2 ^ 62)
    (he : starEach [o] X.env = [(false, eval o X.env)] := by rfl) : Ev G X σ (.Call (.Name f p) [o] [] pos) (.int (vs.length : Nat)) := by
  intro s Q E ha hQ
  refine wpAny_Call_NameR (hf s _ _ ha fun w tk i => ?_)
  cases i
  refine callWith_builtin1 (wpAny_items_cons (ho _ _ _ ha fun w tk' i => ?_) he) he rfl
  cases i
  refine wpAny_items_nil ?_
  obtain ⟨ws, il, hi⟩ := hl.isList ha
  have hs : ws.toArray.size = vs.length := by simp [hi.length]
  refine PyProof.Rows.len_list il (by rw [hs]; omega) ?_
  rw [hs]
  exact hQ _ _ ⟨_, rfl⟩
/-- an item of a list -/
theorem Ev.item {o i : Expr} {a : Addr} {k : Nat} (ho : Ev G X σ o (.val (.ref a))) (hi : Ev G X σ i (.int (k : Int))) (hl : LAt X σ.H a vs) (hk : vs[k]? = some v) (hfit : k < 2 ^ 62)
    (hs : ∀ t, subscripted i false (.ref a) (.int (k : Int) t) = operate [.ref a, .int (k : Int) t] (getItem (.ref a) (.int (k : Int) t)) := by intro _; with_unfolding_all rfl) : Ev G X σ (.Subscript o i pos) v := by
  intro s Q E ha hQ
  refine Subscript_ (ho s _ _ ha fun w tk e => ?_)
  cases e
  refine hi _ _ _ ha fun w tk' ⟨t, e⟩ => ?_
  subst e
  obtain ⟨ws, il, his⟩ := hl.isList ha
  obtain ⟨w, hw, hi'⟩ := his.get hk
  exact tail_any il.typeIs slot_list_getitem.lookup (wpAny_getItem_list il (by omega) (by omega) (by simpa using hw) (hQ w _ hi')) (hs t)
theorem Ev.itemNeg {o i : Expr} {a : Addr} {k : Nat} (ho : Ev G X σ o (.val (.ref a))) (hi : Ev G X σ i (.int (-(k : Int)))) (hl : LAt X σ.H a vs) (h0 : 0 < k) (hle : k ≤ vs.length) (hk : vs[vs.length - k]? = some v) (hfit : k < 2 ^ 62)
    (hs : ∀ t, subscripted i false (.ref a) (.int (-(k : Int)) t) = operate [.ref a, .int (-(k : Int)) t] (getItem (.ref a) (.int (-(k : Int)) t)) := by intro _; with_unfolding_all rfl) : Ev G X σ (.Subscript o i pos) v := by
  intro s Q E ha hQ
  refine Subscript_ (ho s _ _ ha fun w tk e => ?_)
  cases e
  refine hi _ _ _ ha fun w tk' ⟨t, e⟩ => ?_
  subst e
  obtain ⟨ws, il, his⟩ := hl.isList ha
  obtain ⟨w, hw, hi'⟩ := his.get hk
  have hsz : ws.toArray.size = vs.length := by simp [his.length]
  refine tail_any il.typeIs slot_list_getitem.lookup (wpAny_getItem_list_neg il (by omega) (by rw [hsz]; omega) (by omega) ?_ (hQ w _ hi')) (hs t)
  rw [hsz, show (-(k : Int) + (vs.length : Int)).toNat = vs.length - k from by omega]
  simpa using hw
/-- a place of a tuple that a call handed over -/
theorem Ex.itemT {o i : Expr} {k : Nat} {R₁ : AV → AH → Prop} (ho : Ex G X σ o R₁) (hi : ∀ τ : AH, Ev G X { σ with H := τ } i (.int (k : Int)))
    (hR : ∀ v H, R₁ v H → ∃ a us u, v = .val (.ref a) ∧ (a, AO.tup us) ∈ H ∧ us[k]? = some u ∧ R u H) (hfit : k < 2 ^ 62)
    (hs : ∀ a t, subscripted i false (.ref a) (.int (k : Int) t) = operate [.ref a, .int (k : Int) t] (getItem (.ref a) (.int (k : Int) t)) := by intro _ _; with_unfolding_all rfl) : Ex G X σ (.Subscript o i pos) R := by
  intro s Q E ha hQ
  refine Subscript_ (ho s _ _ ha fun w v h' tk H' a' z e r => ?_)
  obtain ⟨d, us, u, rfl, hm, hu, hr⟩ := hR v H' r
  cases e
  refine hi H' _ _ _ a' fun w tk' ⟨t, e⟩ => ?_
  subst e
  obtain ⟨od, e1, ⟨ws, n, e2, his⟩, _⟩ := a'.hp _ hm
  obtain ⟨w, hw, hi'⟩ := his.get hu
  have it : IsTup h' d ws.toArray := ⟨od, e1, by rw [e2], n, by rw [e2]⟩
  have hlt : k < ws.length := by
    rcases Nat.lt_or_ge k ws.length with q | q
    · exact q
    · rw [List.getElem?_eq_none q] at hw; cases hw
  have sk : seqIndex? (k : Int) ws.toArray.size = some k := by
    unfold seqIndex?
    simp; omega
  exact tail_any it.typeIs slot_tuple_getitem.lookup (PyProof.Rows.getItem_tuple it (by omega) (by omega) sk (by simpa using hw) (hQ w u _ _ H' a' z hi' hr)) (hs d t)
end
end Mine
namespace Mine
open PySem PySem.W PyProof.Rows PySem.Spec PySem.Calls
open PySem.Builtin.Int (intBits)
section
variable {G : GX} {X : FX} {σ : AS} {R : AV → AH → Prop} {es : List Expr} {vs : List AV} {pos p : Pos} {k : Nat}
theorem Ex.tuple {R₁ : List AV → AH → Prop} (h : ExL G X σ es R₁) (hR : ∀ vs H d, R₁ vs H → d ∉ H.map (·.1) → vs.length ≤ sizeLine ∧ R (.val (.ref d)) ((d, .tup vs) :: H)) : Ex G X σ (.Tuple es k pos) R := by
  intro s Q E ha hQ
  refine wpAny_Tuple_spliced (h s _ _ _ ha fun ws vs h' tk H' a z is r => ?_)
  have a' := a.push (ao := .tup vs) (o := { cls := .type "tuple", data := .seq ws.toArray }) rfl ⟨ws, 0, rfl, is⟩
  have q := hR vs H' h'.objs.size r (List.nodup_cons.mp a'.nd).1
  refine ⟨by rw [is.length]; exact q.1, ?_⟩
  exact hQ _ (.val (.ref h'.objs.size)) _ _ _ a' (z.trans (σ₂ := { σ with H := _ }) .push a') rfl q.2
theorem Ex.list {R₁ : List AV → AH → Prop} (h : ExL G X σ es R₁) (hR : ∀ vs H d, R₁ vs H → d ∉ H.map (·.1) → vs.length ≤ sizeLine ∧ R (.val (.ref d)) ((d, .list vs) :: H)) : Ex G X σ (.List es pos) R := by
  intro s Q E ha hQ
  refine wpAny_List_spliced (h s _ _ _ ha fun ws vs h' tk H' a z is r => ?_)
  have a' := a.push (ao := .list vs) (o := { cls := .type "list", data := .seq ws.toArray }) rfl ⟨ws, 0, rfl, is⟩
  have q := hR vs H' h'.objs.size r (List.nodup_cons.mp a'.nd).1
  refine ⟨by rw [is.length]; exact q.1, ?_⟩
  exact hQ _ (.val (.ref h'.objs.size)) _ _ _ a' (z.trans (σ₂ := { σ with H := _ }) .push a') rfl q.2
end

/-- stores in a row -/
def Sns (G : GX) (X : FX) (σ : AS) (ts : List (Value → Sem Unit)) (vs : List AV) (R : AS → Prop) : Prop :=
  ∀ (s : Shared) (ws : List Value) (Q : Unit → Shared → Prop) (E : Value → Shared → Prop), At X σ s.heap → AllIs vs ws → (∀ h' tk σ', At X σ' h' → Step X σ.H s.heap σ'.H h' → R σ' → Q () { s with heap := h', toks := tk }) → wpAny G.M X.A (assignInOrder ts ws) Q E s
section
variable {G : GX} {X : FX} {σ : AS} {R : AS → Prop} {v : AV} {vs : List AV} {x : Str} {pos : Pos} {ts : List (Value → Sem Unit)}
theorem Sns.nil (hR : R σ) : Sns G X σ [] [] R := by
  intro s ws Q E ha hi hQ
  match ws, hi with
  | [], _ => exact wpAny_pure (hQ s.heap s.toks σ ha .refl hR)
theorem Sns.name {σ' : AS} (h : Sn G X σ x v σ') (k : Sns G X σ' ts vs R) : Sns G X σ ((fun w => bindName X.env x w) :: ts) (v :: vs) R := by
  intro s ws Q E ha hi hQ
  match ws, hi with
  | w :: ws, ⟨i, is⟩ =>
    show wpAny G.M X.A (do holding ws (bindName X.env x w); assignInOrder ts ws) Q E s
    refine wpAny_bind (wpAny_holding (wpAny_bindName (h s w _ _ ha i fun h' tk a z => ?_)))
    exact k _ _ _ _ a is fun h'' tk' σ'' a' z' r => hQ h'' tk' σ'' a' (z.trans z' a') r
theorem Sns.target {σ' : AS} (h : Sn G X σ x v σ') (k : Sns G X σ' ts vs R) : Sns G X σ (assign (.Name x pos) X.env :: ts) (v :: vs) R := by
  intro s ws Q E ha hi hQ
  match ws, hi with
  | w :: ws, ⟨i, is⟩ =>
    show wpAny G.M X.A (do holding ws (assign (.Name x pos) X.env w); assignInOrder ts ws) Q E s
    refine wpAny_bind (wpAny_holding (PyProof.Rows.assign_Name (h s w _ _ ha i fun h' tk a z => ?_)))
    exact k _ _ _ _ a is fun h'' tk' σ'' a' z' r => hQ h'' tk' σ'' a' (z.trans z' a') r

/-- a tuple unpacked: names in order -/
theorem St.unpackT {R : Fl → AS → Prop} {value : Expr} {elts : List Expr} {k : Nat} {tpos : Pos} {R₁ : AV → AH → Prop} (he : Ex G X σ value R₁)
    (hR : ∀ v H, R₁ v H → ∃ a us, v = .val (.ref a) ∧ (a, AO.tup us) ∈ H ∧ (assignEach elts X.env).length = us.length ∧ Sns G X { σ with H := H } ((assignEach elts X.env).map (·.2)) us fun σ' => R .next σ')
    (hstar : (assignEach elts X.env).findIdx? (·.1) = none := by rfl)
    (hs : swapsWithSole [.Tuple elts k tpos] value pos.line X.env = pure false := by rfl)
    (hw : swappedStores [.Tuple elts k tpos] value X.env = pure none := by rfl) : St G X σ (.Assign [.Tuple elts k tpos] value pos) R := by
  intro s Q E ha hQ
  refine Assign_Tuple (he s _ _ ha fun w v h' tk H' a z i r => ?_) hs hw
  obtain ⟨d, us, rfl, hm, hn, hst⟩ := hR v H' r
  cases i
  obtain ⟨od, e1, ⟨ws, n, e2, his⟩, _⟩ := a.hp _ hm
  refine wpAny_assign_Tuple rfl ⟨od, e1, by rw [e2], n, by rw [e2]⟩ (by rw [hn]; simp [his.length]) hstar fun h'' hx => ?_
  have hk : ∀ b o, h'.get? b = some o → h''.get? b = some o := fun b o e => hx b o (fun q => by have q' : b = h'.objs.size := q; rw [q', get_size] at e; cases e) e
  refine hst _ _ _ _ (a.keep hk) his fun h₃ tk₃ σ₃ a₃ z₃ r₃ => ?_
  refine hQ .next .next h₃ tk₃ σ₃ a₃ ?_ rfl r₃
  exact (z.trans (σ₂ := { σ with H := H' }) (.keep hk) (a.keep hk)).trans z₃ a₃
/-- the two or three names of a swap -/
theorem St.swap {R : Fl → AS → Prop} {value : Expr} {elts : List Expr} {k : Nat} {tpos : Pos} {names : List Str} {R₁ : AV → AH → Prop} (he : Ex G X σ value R₁)
    (hR : ∀ v H, R₁ v H → ∃ a us, v = .val (.ref a) ∧ (a, AO.tup us) ∈ H ∧ names.length = us.length ∧ Sns G X { σ with H := H } (names.reverse.map fun n => bindName X.env n) us.reverse fun σ' => R .next σ')
    (hs : swapsWithSole [.Tuple elts k tpos] value pos.line X.env = pure false := by rfl)
    (hw : swappedStores [.Tuple elts k tpos] value X.env = pure (some names) := by rfl) : St G X σ (.Assign [.Tuple elts k tpos] value pos) R := by
  intro s Q E ha hQ
  refine Assign_Tuple_swapped (he s _ _ ha fun w v h' tk H' a z i r => ?_) hs hw
  obtain ⟨d, us, rfl, hm, hn, hst⟩ := hR v H' r
  cases i
  obtain ⟨od, e1, ⟨ws, n, e2, his⟩, _⟩ := a.hp _ hm
  have hsz : names.length = ws.toArray.size := by rw [hn]; simp [his.length]
  rw [hsz]
  refine wpAny_unpackItems_tuple rfl ⟨od, e1, by rw [e2], n, by rw [e2]⟩ fun h'' hx => ?_
  have hk : ∀ b o, h'.get? b = some o → h''.get? b = some o := fun b o e => hx b o (fun q => by have q' : b = h'.objs.size := q; rw [q', get_size] at e; cases e) e
  refine hst _ _ _ _ (a.keep hk) (by simpa using his.reverse) fun h₃ tk₃ σ₃ a₃ z₃ r₃ => ?_
  refine hQ .next .next h₃ tk₃ σ₃ a₃ ?_ rfl r₃
  exact (z.trans (σ₂ := { σ with H := H' }) (.keep hk) (a.keep hk)).trans z₃ a₃
end
end Mine
namespace Mine
open PySem PySem.W PyProof.Rows PySem.Spec PySem.Calls
open PySem.Builtin.Int (intBits)
section
variable {G : GX} {X : FX} {σ : AS} {R : AV → AH → Prop} {vs : List AV} {pos p : Pos} {k : Nat} {l r : Expr}
/-- out of the library's ledger rules -/
theorem At.via {h h' : Heap} {m : Str → Option Value} (ha : At X σ h) (hm : ∀ x v, σ.m.lookup x = some v → ∃ w, m x = some w ∧ v.Is w) (F' : Fr X.h₀ X.L h' m) (N' : News X.h₀ X.L h' (allNews X.h₀ X.L h)) :
    At X σ h' ∧ ∀ b o, h.get? b = some o → b ≠ X.L → h'.get? b = some o := by
  have keep : ∀ b o, h.get? b = some o → b ≠ X.L → h'.get? b = some o := fun b o e hL => by
    cases q : X.h₀.get? b with
    | some o' =>
      have e2 := ha.old q
      rw [e] at e2; cases e2
      exact F'.keep b _ q
    | none => exact (N' (b, o) (mem_allNews.mpr ⟨e, hL, q⟩)).1
  refine ⟨⟨⟨m, F', hm⟩, fun p hp => ?_, ha.nd⟩, keep⟩
  obtain ⟨o, e1, e2, e3, e4⟩ := ha.hp p hp
  exact ⟨o, keep _ _ e1 e3, e2, e3, e4⟩
theorem At.made {h h' : Heap} {m : Str → Option Value} {d : Addr} {ao : AO} {o : Obj} (ha : At X σ h) (hm : ∀ x v, σ.m.lookup x = some v → ∃ w, m x = some w ∧ v.Is w) (F' : Fr X.h₀ X.L h' m) (N' : News X.h₀ X.L h' ((d, o) :: allNews X.h₀ X.L h)) (hd : h.get? d = none) (hi : ao.Is o) :
    At X { σ with H := (d, ao) :: σ.H } h' ∧ Step X σ.H h ((d, ao) :: σ.H) h' := by
  obtain ⟨a', keep⟩ := ha.via hm F' fun p hp => N' p (.tail _ hp)
  have n := N' _ (.head _)
  refine ⟨⟨a'.fr, fun p hp => ?_, ?_⟩, ⟨fun b o e hL _ => keep b o e hL, fun p hp => ?_⟩⟩
  · rcases List.mem_cons.mp hp with rfl | hp
    · exact ⟨o, n.1, hi, n.2.1, n.2.2⟩
    · exact a'.hp p hp
  · refine List.nodup_cons.mpr ⟨fun q => ?_, ha.nd⟩
    obtain ⟨p, hp, e⟩ := List.mem_map.mp q
    obtain ⟨o', e1, _⟩ := ha.hp p hp
    have e3 : p.1 = d := e
    rw [e3, hd] at e1; cases e1
  · rcases List.mem_cons.mp hp with rfl | hp
    · exact .inr hd
    · exact .inl (List.mem_map_of_mem hp)
theorem AllIs.flat {vs : List AV} {ws : List Value} (h : AllIs vs ws) : ∀ k, AllIs (List.replicate k vs).flatten (List.replicate k ws).flatten
  | 0 => trivial
  | k + 1 => by
    rw [List.replicate_succ, List.replicate_succ, List.flatten_cons, List.flatten_cons]
    exact h.append (h.flat k)
theorem At.isL {h : Heap} {d : Addr} (ha : At X σ h) (hm : (d, AO.list vs) ∈ σ.H) : ∃ ws n, IsL h d ws.toArray n ∧ AllIs vs ws := by
  obtain ⟨o, h1, ⟨ws, n, e, hi⟩, _⟩ := ha.hp _ hm
  subst e
  exact ⟨ws, n, h1, hi⟩
theorem foldl_replicate {ws : List Value} : ∀ (k : Nat) (acc : Array Value), (List.foldl (fun x y => x ++ y) acc (List.replicate k ws.toArray)) = acc ++ (List.replicate k ws).flatten.toArray
  | 0, acc => by simp
  | k + 1, acc => by
    rw [List.replicate_succ, List.foldl_cons, foldl_replicate k, List.replicate_succ, List.flatten_cons]
    simp
/-- a list taken so many times -/
theorem Ex.mulList {R₁ : AV → AH → Prop} (hl : Ex G X σ l R₁) (hr : ∀ v H, R₁ v H → ∃ a vs, v = .val (.ref a) ∧ (a, AO.list vs) ∈ H ∧ Ev G X { σ with H := H } r (.int (k : Int)) ∧ vs.length * k ≤ 2 ^ 24 ∧ k < 2 ^ 62 ∧ vs ≠ [] ∧
      ∀ d, d ∉ H.map (·.1) → R (.val (.ref d)) ((d, .list (List.replicate k vs).flatten) :: H)) : Ex G X σ (.BinOp l .Mult r pos) R := by
  intro s Q E ha hQ
  refine wpAny_BinOp (hl s _ _ ha fun w v h' tk H' a' z i rr => ?_)
  obtain ⟨d, vs, rfl, hm, he, hsz, hk, hne, hR⟩ := hr v H' rr
  cases i
  refine he _ _ _ a' fun w tk' ⟨t, e⟩ => ?_
  subst e
  obtain ⟨ws, n, il, hi⟩ := a'.isL hm
  obtain ⟨m, F, hm'⟩ := a'.fr
  refine mul_list F (allNews_news X.h₀ h' X.L) il (by omega) (by omega) (by simpa [hi.length] using hsz) fun h₂ F₂ N₂ => ?_
  have hemp : ws.toArray.isEmpty = false := by
    cases ws with
    | nil => have := hi.length; cases vs with
      | nil => exact absurd rfl hne
      | cons _ _ => simp at this
    | cons _ _ => rfl
  rw [hemp] at N₂
  simp only [Bool.false_eq_true, if_false, Int.toNat_natCast] at N₂
  rw [show (fun (x1 : Array Value) x2 => x1 ++ x2) = fun x y => x ++ y from rfl, foldl_replicate] at N₂
  simp only [Array.empty_append] at N₂
  obtain ⟨a₂, z₂⟩ := a'.made (ao := .list (List.replicate k vs).flatten) hm' F₂ N₂ (get_size _) ⟨_, 0, rfl, hi.flat k⟩
  exact hQ _ (.val (.ref h'.objs.size)) h₂ tk' _ a₂ (z.trans z₂ a₂) rfl (hR _ (List.nodup_cons.mp a₂.nd).1)

/-- an item is stored -/
theorem St.setItem {R : Fl → AS → Prop} {o i value : Expr} {d : Addr} {v : AV} {pre post : AH} {pos' : Pos} (hv : Ev G X σ value v) (ho : Ev G X σ o (.val (.ref d))) (hi : Ev G X σ i (.int (k : Int))) (hH : σ.H = pre ++ (d, .list vs) :: post) (hk : k < vs.length) (hfit : k < 2 ^ 62)
    (hR : R .next { σ with H := pre ++ (d, .list (vs.set k v)) :: post }) (hs : swapsWith value (some (.Subscript o i pos')) pos.line X.env = pure false := by rfl) : St G X σ (.Assign [.Subscript o i pos'] value pos) R := by
  intro s Q E ha hQ
  refine wpAny_Assign_Subscript (hv s _ _ ha fun w tk iw => ?_) hs
  refine ho _ _ _ ha fun w₂ tk₂ e => ?_
  cases e
  refine hi _ _ _ ha fun w₃ tk₃ ⟨t, e⟩ => ?_
  subst e
  obtain ⟨ws, n, il, his⟩ := ha.isL (d := d) (vs := vs) (by rw [hH]; simp)
  refine ki_setAt il (by omega) (by omega) (by simp [his.length]; omega) ?_
  have e2 : (Obj.mapSeq (·.setIfInBounds ((k : Int)).toNat w) ({ cls := .type "list", dict := none, data := .seq ws.toArray n, slots := #[] } : Obj)) = { cls := .type "list", data := .seq (ws.set k w).toArray n } := by
    simp [Obj.mapSeq]
  have g : (s.heap.update d (Obj.mapSeq (·.setIfInBounds ((k : Int)).toNat w))).get? d = some { cls := .type "list", data := .seq (ws.set k w).toArray n } := by
    rw [← e2]
    exact Heap.get?_update_self _ il (by rw [e2]; rfl)
  have a₂ := ha.upd hH (Heap.SameBut.update ..) g (ao' := .list (vs.set k v)) ⟨_, n, rfl, his.set k iw⟩
  exact hQ .next .next _ tk₃ _ a₂ (hH ▸ .upd (Heap.SameBut.update ..)) rfl hR

/-- append -/
theorem Ex.append {o e : Expr} {d : Addr} {v : AV} {pre post : AH} {apos : Pos} (ho : Ev G X σ o (.val (.ref d))) (hv : Ev G X σ e v) (hH : σ.H = pre ++ (d, .list vs) :: post) (hsz : vs.length ≤ 2 ^ 23)
    (hR : R (.val .none) (pre ++ (d, .list (vs ++ [v])) :: post))
    (he : ∃ pl, eval (.Call (.Attribute o (Str.ofString "append") apos) [e] [] pos) X.env = (do
      let ov ← eval o X.env
      standAt apos.atName
      let (f, first) ← holding [ov] (getMethod ov (Str.ofString "append") pl)
      callWith pos f first (backTo pos (starEach [e] X.env)) []))
    (hse : starEach [e] X.env = [(false, eval e X.env)] := by rfl) : Ex G X σ (.Call (.Attribute o (Str.ofString "append") apos) [e] [] pos) R := by
  intro s Q E ha hQ
  obtain ⟨pl, he⟩ := he
  refine MethodCall_ (ho s _ _ ha fun w tk i => ?_) he
  cases i
  obtain ⟨ws, n, il, his⟩ := ha.isL (d := d) (vs := vs) (by rw [hH]; simp)
  refine getMethod_list_append il rfl rfl ?_
  refine callWith_method1 (wpAny_items_cons (hv _ _ _ ha fun w tk' iw => wpAny_items_nil ?_) hse) hse rfl
  refine wpAny_list_append_plain ⟨n, il⟩ (fun h' ⟨n', hl'⟩ hs' => ?_) (by simp [his.length, sizeLine]; omega)
  have a₂ := ha.upd hH hs' hl' (ao' := .list (vs ++ [v])) ⟨ws ++ [w], n', by simp, his.append ⟨iw, trivial⟩⟩
  exact hQ _ (.val .none) h' tk' _ a₂ (hH ▸ .upd hs') rfl hR
/-- reverse in its place -/
theorem Ex.reverse {o : Expr} {d : Addr} {pre post : AH} {apos : Pos} (ho : Ev G X σ o (.val (.ref d))) (hH : σ.H = pre ++ (d, .list vs) :: post) (hsz : vs.length ≤ 2 ^ 23)
    (hR : R (.val .none) (pre ++ (d, .list vs.reverse) :: post))
    (he : ∃ pl, eval (.Call (.Attribute o (Str.ofString "reverse") apos) [] [] pos) X.env = (do
      let ov ← eval o X.env
      standAt apos.atName
      let (f, first) ← holding [ov] (getMethod ov (Str.ofString "reverse") pl)
      callWith pos f first (backTo pos (starEach [] X.env)) [])) : Ex G X σ (.Call (.Attribute o (Str.ofString "reverse") apos) [] [] pos) R := by
  intro s Q E ha hQ
  obtain ⟨pl, he⟩ := he
  refine MethodCall_ (ho s _ _ ha fun w tk i => ?_) he
  cases i
  obtain ⟨ws, n, il, his⟩ := ha.isL (d := d) (vs := vs) (by rw [hH]; simp)
  refine getMethod_builtin ⟨_, il, rfl⟩ PySem.F.plainAttrs_list PySem.F.slot_list_reverse PySem.F.type_list_reverse (fun a e => by cases e; exact ⟨_, il, rfl⟩) ?_
  refine PySem.P.reverse_list il ?_ (by simp [his.length, sizeLine]; omega)
  have e2 : (Obj.mapSeq (fun x => x.reverse) ({ cls := .type "list", dict := none, data := .seq ws.toArray n, slots := #[] } : Obj)) = { cls := .type "list", data := .seq ws.reverse.toArray n } := by
    simp [Obj.mapSeq]
  have g : (s.heap.update d (Obj.mapSeq fun x => x.reverse)).get? d = some { cls := .type "list", data := .seq ws.reverse.toArray n } := by
    rw [← e2]
    exact Heap.get?_update_self _ il (by rw [e2]; rfl)
  have a₂ := ha.upd hH (Heap.SameBut.update ..) g (ao' := .list vs.reverse) ⟨_, n, rfl, his.reverse⟩
  exact hQ _ (.val .none) _ tk _ a₂ (hH ▸ .upd (Heap.SameBut.update ..)) rfl hR
/-- is it empty -/
theorem Tst.list {e : Expr} {a : Addr} (h : Ev G X σ e (.val (.ref a))) (hl : LAt X σ.H a vs) (hfit : vs.length < 2 ^ 62) (he : ∀ whole, isTrue e X.env whole = (do let v ← whole; standAt e.pos; holding [v] (truthy v)) := by intro _; rfl) : Tst G X σ e (!vs.isEmpty) := by
  intro s Q E ha hQ
  refine wpAny_isTrue_value (h s _ _ ha fun w tk i => ?_) (he _)
  cases i
  obtain ⟨ws, il, his⟩ := hl.isList ha
  refine wpAny_truthy_list il (by simp [his.length]; omega) ?_
  have e2 : (!ws.toArray.isEmpty) = !vs.isEmpty := by
    have := his.length
    cases ws <;> cases vs <;> simp_all
  rw [e2]
  exact hQ _
theorem Ex.ite {test t f : Expr} {c : Bool} (h : Tst G X σ test c) (ht : c = true → Ex G X σ t R) (hf : c = false → Ex G X σ f R) : Ex G X σ (.IfExp test t f pos) R := by
  intro s Q E ha hQ
  refine wpAny_IfExp (h s _ _ ha fun tk => ?_)
  cases c with
  | false => exact hf rfl _ _ _ ha hQ
  | true => exact ht rfl _ _ _ ha hQ
/-- from the end to the start -/
theorem Src.rev {f : Str} {o : Expr} {a : Addr} (hf : Ev G X σ (.Name f p) (.val (.type "reversed"))) (ho : Ev G X σ o (.val (.ref a))) (hl : LAt X σ.H a vs) (hse : starEach [o] X.env = [(false, eval o X.env)] := by rfl) : Src G X σ (.Call (.Name f p) [o] [] pos) vs.reverse (some a) := by
  intro s K E ha hK
  refine wpAny_Call_NameR (hf s _ _ ha fun w tk i => ?_)
  cases i
  refine PyProof.Rows.callWith_type1 (wpAny_items_cons (ho _ _ _ ha fun w tk' i => wpAny_items_nil ?_) hse) hse rfl
  cases i
  obtain ⟨ws, il, hi⟩ := hl.isList ha
  obtain ⟨oa, ea⟩ := hl.live ha
  refine call_reversed_list il ?_
  have hne : a ≠ s.heap.objs.size := Nat.ne_of_lt (Heap.lt_size ea)
  have W := Walks.listRev (prog := G.prog) (w := G.w) (A := X.A) rfl s.heap.objs.size a hne ws.toArray
  rw [show ws.toArray.size = vs.reverse.length from by simp [hi.length]] at W
  have hrev : (s.heap.push (revObj a ((ws.toArray.size : Int) - 1))).IsRevIter s.heap.objs.size a ((ws.toArray.size : Int) - 1) := ⟨_, Heap.get?_push_size _ rfl, rfl, rfl⟩
  refine wpAny_pyIter_revIter hrev ?_
  refine hK _ _ _ _ _ _ _ W ⟨Nat.zero_le _, by simpa [hi.length] using hrev, il.at fun o e => Heap.get?_push_of_some _ e⟩ (fun i w hi2 hw => ?_) ?_ ?_ ?_ (fun _ _ e => Heap.get?_push_of_some _ e)
  · simp only [List.length_reverse, List.getElem?_toArray] at hw
    obtain ⟨v, h1, h2⟩ := hi.get' hw
    rw [List.length_reverse] at hi2
    exact ⟨v, by rw [List.getElem?_reverse hi2]; exact h1, h2⟩
  · intro b hb
    rcases List.mem_cons.mp hb with rfl | hb
    · exact .inl (get_size _)
    · cases List.mem_singleton.mp hb
      exact .inr ⟨rfl, fun hm => hne (List.mem_singleton.mp hm)⟩
  · intro b hb; cases List.mem_singleton.mp hb; exact get_size _
  · rintro i h ⟨_, ⟨o, e, _⟩, ⟨o', e', _⟩⟩ b hb
    rcases List.mem_cons.mp hb with rfl | hb
    · exact ⟨o, e⟩
    · cases List.mem_singleton.mp hb; exact ⟨o', e'⟩
end
end Mine
namespace Mine
open PySem PySem.W PyProof.Rows PySem.Spec PySem.Calls
open PySem.Builtin.Int (intBits)
section
variable {G : GX} {X : FX} {σ : AS} {R : Fl → AS → Prop} {pos p : Pos} {name : Str} {params : Arguments} {body : List Stmt} {scope : Scope} {clos : List (Str × Addr)} {c P : Addr}
def fnOb (name qual : Str) (params : Arguments) (body : List Stmt) (scope : Scope) (clos : List (Str × Addr)) (doc pm : Value) (c' : Addr) (ctv : Value) : AO := .obj (fnMade name qual params body scope clos doc pm c' ctv)
/-- a def within a def, its code not made yet -/
theorem St.nestNew {pre post : AH} (ok : X.Ok G) (hd0 : params.defaults = []) (hk0 : params.kw_defaults = []) (ha0 : annTrees params none X.env = []) (hcd : X.ccd = .ref c) (C : CodeHd X.h₀ c P) (hH : σ.H = pre ++ (P, .obj (tabObj #[])) :: post)
    (hcl : closureFor scope X.env = pure clos)
    (hR : ∀ f c' doc pm ctv, (f :: c' :: σ.H.map (·.1)).Nodup → ∃ σ', Sn G X { σ with H := (f, fnOb name (qualnameIn X.env name name) params body scope clos doc pm c' ctv) :: (c', .code (qualnameIn X.env name name)) :: pre ++ (P, .obj (tabObj #[rawInt pos.line, rawInt pos.col, .ref c'])) :: post } name (.val (.ref f)) σ' ∧ R .next σ') :
    St G X σ (.FunctionDef name params body [] none [] scope none name pos) R := by
  intro s Q E ha hQ
  obtain ⟨m, F, hm⟩ := ha.fr
  obtain ⟨oP, e1, e2, e3, e4⟩ := ha.hp (P, .obj (tabObj #[])) (by rw [hH]; simp)
  cases e2
  have hgs := ok.top.g.keeps F.keep
  obtain ⟨bm, ob, b1, b2, b3, b4, b5, b6⟩ := ok.top.bmain
  have hgP : mainGlobals ≠ P := fun q => by
    obtain ⟨o, es, ep, e, hd, _⟩ := hgs
    rw [q] at e; rw [show s.heap.get? P = _ from e1] at e; cases e; cases hd
  have hbP : bm ≠ P := fun q => by
    have e := F.keep _ _ b3
    rw [q] at e; rw [show s.heap.get? P = _ from e1] at e; cases e; cases b4
  have hbG : bm ≠ mainGlobals := fun q => by
    obtain ⟨o, es, ep, e, hd, _⟩ := ok.top.g
    rw [q, e] at b3; cases b3; rw [hd] at b6; cases b6
  refine nestDef_K hd0 hk0 ha0 (makeFunction_K (mg := G.mg) (ps := #[]) hcl rfl hgs hcd (C.keeps F.keep) e1 trivial rfl hgP ⟨bm, ob, b1, b2, hbG, hbP, F.keep _ _ b3, b4, b5, b6⟩ fun c' ctv doc h' tk hx hge hlt hrec htb => ?_)
  obtain ⟨c₂, oc, vs, t, e2, hoc, hd, hv⟩ := hrec
  cases e2
  have nc : s.heap.get? c' = none := Heap.get?_none_of_le hge
  have nd := ha.nd
  rw [hH] at nd
  rw [List.map_append, List.map_cons] at nd
  have hnew : (h'.objs.size : Nat) ≠ c' := Nat.ne_of_gt hlt
  have ks : ∀ b o, s.heap.get? b = some o → b ≠ P → (h'.push (fnMade name (qualnameIn X.env name name) params body scope clos doc ((G.mg "__name__").getD .none) c' ctv)).get? b = some o := fun b o e hb => Heap.get?_push_of_some _ (hx b o hb e)
  have nh : s.heap.get? h'.objs.size = none := by
    cases q : s.heap.get? h'.objs.size with
    | none => rfl
    | some o =>
      by_cases hb : h'.objs.size = P
      · have := Heap.lt_size htb
        rw [hb] at this
        exact absurd this (Nat.lt_irrefl _)
      · exact absurd (Heap.lt_size (hx _ _ hb q)) (Nat.lt_irrefl _)
  have notin : ∀ b, s.heap.get? b = none → b ∉ σ.H.map (·.1) := fun b e q => by
    obtain ⟨p, hp, e2⟩ := List.mem_map.mp q
    obtain ⟨o, e3, _⟩ := ha.hp p hp
    have e4 : p.1 = b := e2
    rw [e4, e] at e3; cases e3
  have old0 : ∀ b, s.heap.get? b = none → X.h₀.get? b = none := fun b e => by
    cases q : X.h₀.get? b with
    | none => rfl
    | some o => rw [F.keep _ _ q] at e; cases e
  have neL : ∀ b, s.heap.get? b = none → b ≠ X.L := fun b e q => by
    obtain ⟨o, e2⟩ := ha.live
    rw [q, e2] at e; cases e
  have ndAll : (h'.objs.size :: c' :: σ.H.map (·.1)).Nodup := by
    refine List.nodup_cons.mpr ⟨fun q => ?_, List.nodup_cons.mpr ⟨notin _ nc, ha.nd⟩⟩
    rcases List.mem_cons.mp q with q | q
    · exact hnew q
    · exact notin _ nh q
  have a₁ : At X { σ with H := (h'.objs.size, fnOb name (qualnameIn X.env name name) params body scope clos doc ((G.mg "__name__").getD .none) c' ctv) :: (c', .code (qualnameIn X.env name name)) :: pre ++ (P, .obj (tabObj #[rawInt pos.line, rawInt pos.col, .ref c'])) :: post } (h'.push (fnMade name (qualnameIn X.env name name) params body scope clos doc ((G.mg "__name__").getD .none) c' ctv)) := by
    refine ⟨⟨m, ⟨(F.ns.at' fun o e => ks _ o e (Ne.symm e3)), fun b o e => ks b o (F.keep b o e) (fun q => by rw [q, e4] at e; cases e), F.above⟩, hm⟩, fun p hp => ?_, ?_⟩
    · rcases List.mem_cons.mp hp with rfl | hp
      · exact ⟨_, Heap.get?_push_size _ rfl, rfl, neL _ nh, old0 _ nh⟩
      · rcases List.mem_cons.mp hp with rfl | hp
        · exact ⟨oc, Heap.get?_push_of_some _ hoc, ⟨vs, t, hd, hv⟩, neL _ nc, old0 _ nc⟩
        · rcases List.mem_append.mp hp with q | q
          · obtain ⟨o, q1, q2, q3, q4⟩ := ha.hp p (by rw [hH]; exact List.mem_append_left _ q)
            refine ⟨o, ks _ _ q1 (fun z => ?_), q2, q3, q4⟩
            rw [List.nodup_append] at nd
            exact nd.2.2 p.1 (List.mem_map_of_mem q) P (by simp) z
          · rcases List.mem_cons.mp q with rfl | q
            · exact ⟨_, Heap.get?_push_of_some _ htb, rfl, e3, e4⟩
            · obtain ⟨o, q1, q2, q3, q4⟩ := ha.hp p (by rw [hH]; exact List.mem_append_right _ (.tail _ q))
              refine ⟨o, ks _ _ q1 (fun z => ?_), q2, q3, q4⟩
              rw [List.nodup_append] at nd
              exact (List.nodup_cons.mp nd.2.1).1 (z ▸ List.mem_map_of_mem (f := (·.1)) q)
    · have q := ndAll
      rw [hH] at q
      simpa using q
  obtain ⟨σ', n, r⟩ := hR h'.objs.size c' doc _ ctv ndAll
  refine n _ _ _ _ a₁ rfl fun h₃ tk₃ a₃ z₃ => ?_
  refine hQ .next .next h₃ tk₃ σ' a₃ ?_ rfl r
  refine Step.trans ⟨fun b o e hL hd => ks b o e (fun q => hd (by rw [q, hH]; simp)), fun p hp => ?_⟩ z₃ a₃
  rcases List.mem_cons.mp hp with rfl | hp
  · exact .inr nh
  · rcases List.mem_cons.mp hp with rfl | hp
    · exact .inr nc
    · refine .inl ?_
      rw [hH]
      rcases List.mem_append.mp hp with q | q
      · exact List.mem_map.mpr ⟨p, List.mem_append_left _ q, rfl⟩
      · rcases List.mem_cons.mp q with rfl | q
        · simp
        · exact List.mem_map.mpr ⟨p, List.mem_append_right _ (.tail _ q), rfl⟩
/-- a def within a def, its code made by an earlier call -/
theorem St.nestHit {c' : Addr} (ok : X.Ok G) (hd0 : params.defaults = []) (hk0 : params.kw_defaults = []) (ha0 : annTrees params none X.env = []) (hcd : X.ccd = .ref c) (C : CodeHd X.h₀ c P) (hP : (P, AO.obj (tabObj #[rawInt pos.line, rawInt pos.col, .ref c'])) ∈ σ.H)
    (hcl : closureFor scope X.env = pure clos)
    (hR : ∀ f doc pm ctv, f ∉ σ.H.map (·.1) → ∃ σ', Sn G X { σ with H := (f, fnOb name (qualnameIn X.env name name) params body scope clos doc pm c' ctv) :: σ.H } name (.val (.ref f)) σ' ∧ R .next σ') :
    St G X σ (.FunctionDef name params body [] none [] scope none name pos) R := by
  intro s Q E ha hQ
  obtain ⟨m, F, hm⟩ := ha.fr
  have e1 := ha.objAt hP
  have hgs := ok.top.g.keeps F.keep
  obtain ⟨bm, ob, b1, b2, b3, b4, b5, b6⟩ := ok.top.bmain
  have hbP : bm ≠ P := fun q => by
    have e := F.keep _ _ b3
    rw [q, e1] at e; cases e; cases b4
  have hbG : bm ≠ mainGlobals := fun q => by
    obtain ⟨o, es, ep, e, hd, _⟩ := ok.top.g
    rw [q, e] at b3; cases b3; rw [hd] at b6; cases b6
  refine nestDef_K hd0 hk0 ha0 (makeFunction_hit (mg := G.mg) (cv := .ref c') hcl rfl hgs hcd (C.keeps F.keep) e1 (by simp [TriplesOk, rawInt]) (by simp [codeAmong, rawInt]) ⟨bm, ob, b1, b2, hbG, hbP, F.keep _ _ b3, b4, b5, b6⟩ fun ctv doc h' tk hk hsz => ?_)
  have a₀ := ha.keep hk
  have a₁ := a₀.push (ao := fnOb name (qualnameIn X.env name name) params body scope clos doc ((G.mg "__name__").getD .none) c' ctv) (o := fnMade name (qualnameIn X.env name name) params body scope clos doc ((G.mg "__name__").getD .none) c' ctv) rfl rfl
  obtain ⟨σ', n, r⟩ := hR h'.objs.size doc _ ctv (List.nodup_cons.mp a₁.nd).1
  refine n _ _ _ _ a₁ rfl fun h₃ tk₃ a₃ z₃ => ?_
  refine hQ .next .next h₃ tk₃ σ' a₃ ?_ rfl r
  exact ((Step.keep hk).trans (σ₂ := { σ with H := _ }) .push a₁).trans z₃ a₃

/-- the tables of the codes within: where they lie, what they will hold -/
structure TI where
  c : Addr
  P : Addr
  line : Nat
  col : Nat
  qual : Str
inductive TabsOk : List TI → AH → Prop
  | nil : TabsOk [] []
  | empty {t : TI} {ts : List TI} {T : AH} : TabsOk ts T → TabsOk (t :: ts) ((t.P, .obj (tabObj #[])) :: T)
  | full {t : TI} {ts : List TI} {T : AH} (c' : Addr) : TabsOk ts T → TabsOk (t :: ts) ((t.P, .obj (tabObj #[rawInt t.line, rawInt t.col, .ref c'])) :: (c', .code t.qual) :: T)
theorem TabsOk.at {ts : List TI} {T : AH} {t : TI} (h : TabsOk ts T) (ht : t ∈ ts) :
    (∃ T1 T2, T = T1 ++ (t.P, .obj (tabObj #[])) :: T2 ∧ ∀ c', TabsOk ts (T1 ++ (t.P, .obj (tabObj #[rawInt t.line, rawInt t.col, .ref c'])) :: (c', .code t.qual) :: T2)) ∨
    ∃ c', (t.P, AO.obj (tabObj #[rawInt t.line, rawInt t.col, .ref c'])) ∈ T ∧ (c', AO.code t.qual) ∈ T := by
  induction h with
  | nil => cases ht
  | @empty t' ts T hT ih =>
    rcases List.mem_cons.mp ht with rfl | ht
    · exact .inl ⟨[], T, rfl, fun c' => .full c' hT⟩
    · rcases ih ht with ⟨T1, T2, rfl, k⟩ | ⟨c', h1, h2⟩
      · exact .inl ⟨_ :: T1, T2, rfl, fun c' => .empty (k c')⟩
      · exact .inr ⟨c', .tail _ h1, .tail _ h2⟩
  | @full t' ts T c₀ hT ih =>
    rcases List.mem_cons.mp ht with rfl | ht
    · exact .inr ⟨c₀, .head _, .tail _ (.head _)⟩
    · rcases ih ht with ⟨T1, T2, rfl, k⟩ | ⟨c', h1, h2⟩
      · exact .inl ⟨_ :: _ :: T1, T2, rfl, fun c' => .full c₀ (k c')⟩
      · exact .inr ⟨c', .tail _ (.tail _ h1), .tail _ (.tail _ h2)⟩
theorem Sn.pre {x : Str} {v : AV} {σ₁ σ' : AS} (h : Sn G X σ₁ x v σ') (hm : σ₁.m = σ.m) (hH : Sub σ₁.H σ.H) : Sn G X σ x v σ' := by
  intro s w Q E ha hi hQ
  exact h s w Q E (ha.sub (fun y u e => by rw [← hm]; exact e) hH) hi fun h' tk a z => hQ h' tk a ((Step.refl.sub hH.mem).trans z a)
/-- a def within a def -/
theorem St.nest {ts : List TI} {t : TI} {T H₀ : AH} (ok : X.Ok G) (hd0 : params.defaults = []) (hk0 : params.kw_defaults = []) (ha0 : annTrees params none X.env = []) (ht : t ∈ ts) (hcd : X.ccd = .ref t.c) (C : CodeHd X.h₀ t.c t.P) (hT : TabsOk ts T) (hH : σ.H = T ++ H₀)
    (hl : t.line = pos.line) (hc : t.col = pos.col) (hq : t.qual = qualnameIn X.env name name) (hcl : closureFor scope X.env = pure clos)
    (hR : ∀ T' f c' doc pm ctv, TabsOk ts T' → (c', AO.code (qualnameIn X.env name name)) ∈ T' → ∃ σ', Sn G X { σ with H := (f, fnOb name (qualnameIn X.env name name) params body scope clos doc pm c' ctv) :: (T' ++ H₀) } name (.val (.ref f)) σ' ∧ R .next σ') :
    St G X σ (.FunctionDef name params body [] none [] scope none name pos) R := by
  rcases hT.at ht with ⟨T1, T2, rfl, k⟩ | ⟨c', h1, h2⟩
  · rw [hl, hc, hq] at k
    refine St.nestNew (pre := T1) (post := T2 ++ H₀) ok hd0 hk0 ha0 hcd C (by rw [hH]; simp) hcl fun f c' doc pm ctv nd => ?_
    obtain ⟨σ', n, r⟩ := hR _ f c' doc pm ctv (k c') (by simp)
    refine ⟨σ', n.pre rfl (.cons (.perm ?_)), r⟩
    show List.Perm ((c', AO.code (qualnameIn X.env name name)) :: (T1 ++ (t.P, AO.obj (tabObj #[rawInt pos.line, rawInt pos.col, .ref c'])) :: (T2 ++ H₀))) _
    rw [List.append_assoc]
    refine (List.perm_middle.symm).trans ?_
    refine List.Perm.append_left T1 ?_
    exact List.Perm.swap ..
  · rw [hl, hc] at h1
    rw [hq] at h2
    refine St.nestHit (c' := c') ok hd0 hk0 ha0 hcd C (by rw [hH]; exact List.mem_append_left _ h1) hcl fun f doc pm ctv nd => ?_
    obtain ⟨σ', n, r⟩ := hR T f c' doc pm ctv hT h2
    exact ⟨σ', n.pre rfl (by rw [hH]; exact .refl _), r⟩
end
end Mine
namespace Mine
open PySem PySem.W PyProof.Rows PySem.Spec PySem.Calls
open PySem.Builtin.Int (intBits)
/-- a comparison's answer -/
def CmpS (G : GX) (X : FX) (σ : AS) (op : CmpOp) (v w : AV) (b : Bool) : Prop :=
  ∀ (s : Shared) (Q E : Value → Shared → Prop) (x y : Value), At X σ s.heap → v.Is x → w.Is y → (∀ tk, Q (.bool b) { s with toks := tk }) → wpAny G.M X.A (compareOp op x y) Q E s
/-- an int, the objects as they were -/
def ExI (G : GX) (X : FX) (σ : AS) (e : Expr) (a : Int) : Prop := Ex G X σ e fun v H => v = .int a ∧ H = σ.H
section
variable {G : GX} {X : FX} {σ : AS} {l r e : Expr} {pos p : Pos} {op : CmpOp} {b : Bool}
theorem CmpS.int {x y : Int} (h : cmpI op x y = some b) : CmpS G X σ op (.int x) (.int y) b := by
  rintro s Q E _ _ ha ⟨t, rfl⟩ ⟨u, rfl⟩ hQ
  exact cmp_ints h (hQ s.toks)
theorem CmpS.listEq {a c : Addr} {x y : List Int} (ha : LAt X σ.H a (il x)) (hc : LAt X σ.H c (il y)) (hu : X.un + 64 < cLine) : CmpS G X σ .Eq (.val (.ref a)) (.val (.ref c)) (decide (x = y)) := by
  rintro s Q E _ _ hA rfl rfl hQ
  obtain ⟨ws, il1, hi1⟩ := ha.isList hA
  obtain ⟨us, il2, hi2⟩ := hc.isList hA
  exact ke_eq_ints il1 il2 hi1.intsAre hi2.intsAre hu (hQ s.toks)
theorem CmpS.listNe {a c : Addr} {x y : List Int} (ha : LAt X σ.H a (il x)) (hc : LAt X σ.H c (il y)) (hu : X.un + 64 < cLine) : CmpS G X σ .NotEq (.val (.ref a)) (.val (.ref c)) (!decide (x = y)) := by
  rintro s Q E _ _ hA rfl rfl hQ
  obtain ⟨ws, il1, hi1⟩ := ha.isList hA
  obtain ⟨us, il2, hi2⟩ := hc.isList hA
  exact ke_ne_ints il1 il2 hi1.intsAre hi2.intsAre hu (hQ s.toks)
theorem At.isTup {h : Heap} {a : Addr} {vs : List AV} (hA : At X σ h) (hm : (a, AO.tup vs) ∈ σ.H) : ∃ ws, IsTup h a ws.toArray ∧ AllIs vs ws := by
  obtain ⟨o, e1, ⟨ws, n, e2, hi⟩, _⟩ := hA.hp _ hm
  exact ⟨ws, ⟨o, e1, by rw [e2], n, by rw [e2]⟩, hi⟩
theorem shaped_tup (x : List Int) : SeqAt.shaped (.tuple (x.map PyData.int)) = true := by
  simp [SeqAt.shaped, PyData.canLay0, PyData.depth, ke_canLayAll0, ke_depthAll]
theorem CmpS.tupEq {a c : Addr} {x y : List Int} (ha : (a, AO.tup (il x)) ∈ σ.H) (hc : (c, AO.tup (il y)) ∈ σ.H) (hu : X.un + 64 < cLine) : CmpS G X σ .Eq (.val (.ref a)) (.val (.ref c)) (decide (x = y)) := by
  rintro s Q E _ _ hA rfl rfl hQ
  obtain ⟨ws, il1, hi1⟩ := hA.isTup ha
  obtain ⟨us, il2, hi2⟩ := hA.isTup hc
  refine eq_dataH (reads_newDataT il1 (ke_carried hi1.intsAre)) (reads_newDataT il2 (ke_carried hi2.intsAre)) (shaped_tup _) (shaped_tup _) hu ?_
  rw [show PyData.eqv (.tuple (x.map PyData.int)) (.tuple (y.map PyData.int)) = decide (x = y) from by simp only [PyData.eqv]; exact ked_eqvAll x y]
  exact hQ s.toks
theorem CmpS.tupNe {a c : Addr} {x y : List Int} (ha : (a, AO.tup (il x)) ∈ σ.H) (hc : (c, AO.tup (il y)) ∈ σ.H) (hu : X.un + 64 < cLine) : CmpS G X σ .NotEq (.val (.ref a)) (.val (.ref c)) (!decide (x = y)) := by
  rintro s Q E _ _ hA rfl rfl hQ
  obtain ⟨ws, il1, hi1⟩ := hA.isTup ha
  obtain ⟨us, il2, hi2⟩ := hA.isTup hc
  refine ne_dataH (reads_newDataT il1 (ke_carried hi1.intsAre)) (reads_newDataT il2 (ke_carried hi2.intsAre)) (shaped_tup _) (shaped_tup _) hu ?_
  rw [show PyData.eqv (.tuple (x.map PyData.int)) (.tuple (y.map PyData.int)) = decide (x = y) from by simp only [PyData.eqv]; exact ked_eqvAll x y]
  exact hQ s.toks
/-- a comparison of what calls hand over -/
theorem TsX.cmp {R₁ : AV → AH → Prop} {R : Bool → AH → Prop} (hl : Ex G X σ l R₁) (hr : ∀ v H, R₁ v H → Ex G X { σ with H := H } r fun w H' => ∃ b, CmpS G X { σ with H := H' } op v w b ∧ R b H') (hm : behindInMarks op r = false := by with_unfolding_all rfl) : TsX G X σ (.Compare l [op] [r] pos) R := by
  intro s Q E ha hQ
  refine wpAny_isTrue_Compare1 (hl s _ _ ha fun w v h' tk H' a z i rr => ?_) hm
  refine hr v H' rr _ _ _ a fun w₂ v₂ h₂ tk₂ H₂ a₂ z₂ i₂ ⟨b, hc, hR⟩ => ?_
  exact hc _ _ _ _ _ a₂ i i₂ fun tk₃ => wpAny_truthy_bool (hQ b h₂ tk₃ H₂ a₂ (z.trans z₂ a₂) hR)
theorem Ex.cmp {R₁ R : AV → AH → Prop} (hl : Ex G X σ l R₁) (hr : ∀ v H, R₁ v H → Ex G X { σ with H := H } r fun w H' => ∃ b, CmpS G X { σ with H := H' } op v w b ∧ R (.val (.bool b)) H') (hm : behindInMarks op r = false := by with_unfolding_all rfl) : Ex G X σ (.Compare l [op] [r] pos) R := by
  intro s Q E ha hQ
  refine wpAny_Compare1 (hl s _ _ ha fun w v h' tk H' a z i rr => ?_) hm
  refine hr v H' rr _ _ _ a fun w₂ v₂ h₂ tk₂ H₂ a₂ z₂ i₂ ⟨b, hc, hR⟩ => ?_
  exact hc _ _ _ _ _ a₂ i i₂ fun tk₃ => hQ _ (.val (.bool b)) h₂ tk₃ H₂ a₂ (z.trans z₂ a₂) rfl hR
/-- x op y op z -/
theorem Tst.chain {x y z : Int} {c d : Bool} {op₁ op₂ : CmpOp} {e₁ e₂ e₃ : Expr} (h1 : Ev G X σ e₁ (.int x)) (h2 : Ev G X σ e₂ (.int y)) (h3 : Ev G X σ e₃ (.int z)) (hc : cmpI op₁ x y = some c) (hd : cmpI op₂ y z = some d)
    (hm : lastMarks [op₁, op₂] [e₂, e₃] = false := by with_unfolding_all rfl) : Tst G X σ (.Compare e₁ [op₁, op₂] [e₂, e₃] pos) (c && d) := by
  intro s Q E ha hQ
  refine isTrue_chain (h1 s _ _ ha fun w tk ⟨t, e⟩ => ?_) hm
  subst e
  refine test_link (h2 _ _ _ ha fun w tk₂ ⟨u, e⟩ => ?_)
  subst e
  refine cmp_ints hc (wpAny_truthy_bool ?_)
  cases c with
  | false => rw [if_neg (by decide)]; exact hQ tk₂
  | true =>
    rw [if_pos rfl]
    refine test_last (h3 _ _ _ ha fun w tk₃ ⟨v, e⟩ => ?_)
    subst e
    exact cmp_ints hd (wpAny_truthy_bool (hQ tk₃))

theorem ExI.ev {a : Int} (h : Ev G X σ e (.int a)) : ExI G X σ e a := h.toEx ⟨rfl, rfl⟩
theorem ExI.cast {a c : Int} (h : ExI G X σ e a) (q : a = c) : ExI G X σ e c := q ▸ h
theorem ExI.bin {op : Operator} {a c d : Int} (hl : ExI G X σ l a) (hr : ExI G X σ r c) (h : ∀ (s : Shared) (Q E : Value → Shared → Prop) t u, Q (.int d s.toks) { s with toks := s.toks + 1 } → wpAny G.M X.A (binaryOp op (.int a t) (.int c u)) Q E s) : ExI G X σ (.BinOp l op r pos) d := by
  intro s Q E ha hQ
  refine wpAny_BinOp (hl s _ _ ha fun w v h' tk H' a' z i ⟨e1, e2⟩ => ?_)
  subst e1 e2
  obtain ⟨t, rfl⟩ := i
  refine hr _ _ _ a' fun w₂ v₂ h₂ tk₂ H₂ a₂ z₂ i₂ ⟨e1, e2⟩ => ?_
  subst e1 e2
  obtain ⟨u, rfl⟩ := i₂
  exact h _ _ _ _ _ (hQ _ (.int d) h₂ (tk₂ + 1) _ a₂ (z.trans z₂ a₂) ⟨_, rfl⟩ ⟨rfl, rfl⟩)
theorem ExI.add {a c : Int} (hl : ExI G X σ l a) (hr : ExI G X σ r c) : ExI G X σ (.BinOp l .Add r pos) (a + c) := .bin hl hr fun _ _ _ _ _ h => P.add_int h
theorem ExI.sub {a c : Int} (hl : ExI G X σ l a) (hr : ExI G X σ r c) : ExI G X σ (.BinOp l .Sub r pos) (a - c) := .bin hl hr fun _ _ _ _ _ h => P.sub_int h
theorem ExI.mul {a c : Int} (hl : ExI G X σ l a) (hr : ExI G X σ r c) (hm : IntMulOk a c) : ExI G X σ (.BinOp l .Mult r pos) (a * c) := .bin hl hr fun _ _ _ _ _ h => P.mul_int h hm
theorem ExI.mod {a c : Int} (hl : ExI G X σ l a) (hr : ExI G X σ r c) (hb : 0 < c) : ExI G X σ (.BinOp l .Mod r pos) (a % c) :=
  .bin hl hr fun _ _ _ _ _ h => AutoIntOps.mod_1 (by simp; omega) (by rw [Int.fmod_eq_emod_of_nonneg _ (by omega)]; exact h)
theorem ExI.shl {a : Int} {n : Nat} (hl : ExI G X σ l a) (hr : ExI G X σ r (n : Int)) (hm : intBits a + n ≤ 2 ^ 27) : ExI G X σ (.BinOp l .LShift r pos) (a * 2 ^ n) :=
  .bin hl hr fun _ _ _ _ _ h => PyProof.Rows.lshift_int (by omega) (by omega) (by rw [Int.toNat_natCast]; exact h)
theorem St.assignI {R : Fl → AS → Prop} {x : Str} {a : Int} {pos' : Pos} (ok : X.Ok G) (hx : X.cs.names.lookup x = some .local) (he : ExI G X σ e a) (hR : R .next (σ.set x (.int a))) (hs : swapsWith e (some (.Name x pos')) pos.line X.env = pure false := by rfl) : St G X σ (.Assign [.Name x pos'] e pos) R :=
  St.assignL ok hx he (fun v H ⟨e1, e2⟩ => by subst e1 e2; exact hR) hs

/-- the ints of a range -/
def rng (a c : Int) (n : Nat) : List Int := (List.range n).map fun (i : Nat) => a + (i : Int) * c
theorem rng_length (a c : Int) (n : Nat) : (rng a c n).length = n := by simp [rng]
theorem rng_get {a c : Int} {n i : Nat} (h : i < n) : (rng a c n)[i]? = some (a + (i : Int) * c) := by simp [rng, h]
theorem range_src {s : Shared} {K : Value → Shared → Prop} {h₁ : Heap} {tk : Nat} {a c : Int} {n : Nat}
    (hK : ∀ I fp wr P Stt h' tk, Walks G.prog G.w X.A I fp wr (il (rng a c n)).length P Stt → Stt 0 h' → (∀ i w, i < (il (rng a c n)).length → P i w → ∃ v, (il (rng a c n))[i]? = some v ∧ v.Is w) →
      (∀ b ∈ fp, s.heap.get? b = none ∨ (none = some b ∧ b ∉ wr)) → (∀ b ∈ wr, s.heap.get? b = none) → (∀ i h, Stt i h → ∀ b ∈ fp, ∃ o, h.get? b = some o) →
      (∀ b o, s.heap.get? b = some o → h'.get? b = some o) → K (.ref I) { s with heap := h', toks := tk })
    (k1 : ∀ b o, s.heap.get? b = some o → h₁.get? b = some o) (sz : s.heap.get? h₁.objs.size = none) :
    K (.ref h₁.objs.size) { s with heap := h₁.push { cls := .type "range_iterator", data := .fields #[rawInt a, rawInt (n : Int), rawInt c] }, toks := tk } := by
  have W := Walks.range (prog := G.prog) (w := G.w) (A := X.A) rfl h₁.objs.size a c n
  have el : (il (rng a c n)).length = n := by rw [List.length_map, rng_length]
  refine hK h₁.objs.size [h₁.objs.size] [h₁.objs.size] (fun i v => ∃ t, v = .int (a + i * c) t) (fun i h => IsRangeIter h h₁.objs.size (a + (i : Nat) * c) ((n : Int) - (i : Nat)) c) _ _ (by rw [el]; exact W) (by simpa using Heap.get?_push_size _ rfl) (fun i w hi ⟨t, hw⟩ => ?_) ?_ ?_ ?_ (fun _ _ e => Heap.get?_push_of_some _ (k1 _ _ e))
  · rw [el] at hi
    exact ⟨.int (a + i * c), by rw [List.getElem?_map, rng_get hi]; rfl, t, hw⟩
  · intro b hb; cases List.mem_singleton.mp hb; exact .inl sz
  · intro b hb; cases List.mem_singleton.mp hb; exact sz
  · intro i h hst b hb; cases List.mem_singleton.mp hb; exact ⟨_, hst⟩
/-- range -/
theorem Src.range1 {f : Str} {n : Nat} (hf : Ev G X σ (.Name f p) (.val (.type "range"))) (he : Ev G X σ e (.int (n : Int))) (hhi : n < 2 ^ 62) (hse : starEach [e] X.env = [(false, eval e X.env)] := by rfl) : Src G X σ (.Call (.Name f p) [e] [] pos) (il (rng 0 1 n)) none := by
  intro s K E ha hK
  refine wpAny_Call_NameR (hf s _ _ ha fun w tk i => ?_)
  cases i
  refine PyProof.Rows.callWith_type1 (wpAny_items_cons (he _ _ _ ha fun w tk' i => wpAny_items_nil ?_) hse) hse rfl
  obtain ⟨t, rfl⟩ := i
  refine call_range_1 ?_
  refine wpAny_pyIter_range (IsRange.new ..) (small_one (by decide) (by decide) (by omega) (by omega)) ?_
  have hsz : Builtin.Range.rangeSize 0 (n : Int) 1 = (n : Int) := by rw [rangeSize_one]; split <;> omega
  rw [hsz]
  exact range_src (s := s) hK (fun _ _ e => Heap.get?_push_of_some _ e) (Heap.get?_none_of_le (by simp [Heap.size_push]))
theorem Src.range2 {f : Str} {e₂ : Expr} {a b : Int} {n : Nat} (hf : Ev G X σ (.Name f p) (.val (.type "range"))) (he : Ev G X σ e (.int a)) (he₂ : Ev G X σ e₂ (.int b)) (hn : n = (b - a).toNat) (ha1 : -(2 ^ 61) ≤ a) (ha2 : a < 2 ^ 61) (hb1 : -(2 ^ 61) ≤ b) (hb2 : b < 2 ^ 61)
    (hse : starEach [e, e₂] X.env = (false, eval e X.env) :: starEach [e₂] X.env := by rfl) (hse₂ : starEach [e₂] X.env = [(false, eval e₂ X.env)] := by rfl) (hpl : (backTo pos (starEach [e₂] X.env)).any (·.1) = false := by rfl) : Src G X σ (.Call (.Name f p) [e, e₂] [] pos) (il (rng a 1 n)) none := by
  intro s K E ha hK
  refine wpAny_Call_NameR (hf s _ _ ha fun w tk i => ?_)
  cases i
  refine PyProof.Rows.callWith_type1 (wpAny_items_cons (he _ _ _ ha fun w tk' i => wpAny_items_cons (he₂ _ _ _ ha fun w₂ tk₂ i₂ => wpAny_items_nil ?_) hse₂) hse) hse hpl
  obtain ⟨t, rfl⟩ := i
  obtain ⟨u, rfl⟩ := i₂
  refine call_range_2 ?_
  refine wpAny_pyIter_range (IsRange.new ..) (small_one (by omega) (by omega) (by omega) (by omega)) ?_
  have hsz : Builtin.Range.rangeSize a b 1 = (n : Int) := by rw [rangeSize_one]; split <;> omega
  rw [hsz]
  exact range_src (s := s) hK (fun _ _ e => Heap.get?_push_of_some _ e) (Heap.get?_none_of_le (by simp [Heap.size_push]))
/-- range downwards -/
theorem Src.down {f : Str} {e₂ e₃ : Expr} {a b : Int} {n : Nat} (hf : Ev G X σ (.Name f p) (.val (.type "range"))) (he : Ev G X σ e (.int a)) (he₂ : Ev G X σ e₂ (.int b)) (he₃ : Ev G X σ e₃ (.int (-1))) (hn : n = (a - b).toNat) (ha1 : -(2 ^ 61) ≤ a) (ha2 : a < 2 ^ 61) (hb1 : -(2 ^ 61) ≤ b) (hb2 : b < 2 ^ 61)
    (hse : starEach [e, e₂, e₃] X.env = (false, eval e X.env) :: starEach [e₂, e₃] X.env := by rfl) (hse₂ : starEach [e₂, e₃] X.env = (false, eval e₂ X.env) :: starEach [e₃] X.env := by rfl) (hse₃ : starEach [e₃] X.env = [(false, eval e₃ X.env)] := by rfl) (hpl : (backTo pos (starEach [e₂, e₃] X.env)).any (·.1) = false := by rfl) : Src G X σ (.Call (.Name f p) [e, e₂, e₃] [] pos) (il (rng a (-1) n)) none := by
  intro s K E ha hK
  refine wpAny_Call_NameR (hf s _ _ ha fun w tk i => ?_)
  cases i
  refine PyProof.Rows.callWith_type1 (wpAny_items_cons (he _ _ _ ha fun w tk' i => wpAny_items_cons (he₂ _ _ _ ha fun w₂ tk₂ i₂ => wpAny_items_cons (he₃ _ _ _ ha fun w₃ tk₃ i₃ => wpAny_items_nil ?_) hse₃) hse₂) hse) hse hpl
  obtain ⟨t, rfl⟩ := i
  obtain ⟨u, rfl⟩ := i₂
  obtain ⟨v, rfl⟩ := i₃
  refine call_range_3 (by decide) ?_ (.inl (PyProof.noPylong_small (by decide)))
  refine wpAny_pyIter_range (IsRange.new ..) (small_down (by omega) (by omega) (by omega) (by omega)) ?_
  have hsz : Builtin.Range.rangeSize a b (-1) = (n : Int) := by rw [rangeSize_downNat, hn]
  rw [hsz]
  exact range_src (s := s) hK (fun _ _ e => Heap.get?_push_of_some _ e) (Heap.get?_none_of_le (by simp [Heap.size_push]))
end
/-- the law's end -/
theorem law_end {G : GX} {X : FX} {m : List (Str × AV)} {ts : List TI} {T : AH} {body : List Stmt} {s : Shared} {Q : Flow → Shared → Prop} {E : Value → Shared → Prop}
    (h : Ss G X ⟨m, T⟩ body fun f σ' => f = .ret (.val (.bool true)) ∧ ∃ T', TabsOk ts T' ∧ Sub T' σ'.H) (ha : At X ⟨m, T⟩ s.heap)
    (hQ : ∀ h' tk mm, Fr X.h₀ X.L h' mm → (∀ t ∈ ts, ∃ ps, h'.get? t.P = some (tabObj ps)) → Q (.ret (.bool true)) { s with heap := h', toks := tk }) : wpAny G.M X.A (execs body X.env) Q E s := by
  refine h s _ _ ha fun f fl h' tk σ' a z i ⟨e, T', hT', hS⟩ => ?_
  subst e
  obtain ⟨w, rfl, iw⟩ := i
  cases iw
  obtain ⟨mm, F, _⟩ := a.fr
  refine hQ h' tk mm F fun t ht => ?_
  rcases hT'.at ht with ⟨T1, T2, e, _⟩ | ⟨c', h1, _⟩
  · exact ⟨#[], a.objAt (hS.mem _ (by rw [e]; simp))⟩
  · exact ⟨_, a.objAt (hS.mem _ h1)⟩
end Mine
namespace Mine
open PySem PySem.W PyProof.Rows PySem.Spec PySem.Calls
open PySem.Builtin.Int (intBits)

/-- a source of a for that a call makes first -/
def SrcX (G : GX) (X : FX) (σ : AS) (iter : Expr) (R : AH → List AV → Option Addr → Prop) : Prop :=
  ∀ (s : Shared) (K E : Value → Shared → Prop), At X σ s.heap →
    (∀ g H₁ items lk, At X { σ with H := H₁ } g → Step X σ.H s.heap H₁ g → R H₁ items lk → ∀ I fp wr P Stt h' tk, Walks G.prog G.w X.A I fp wr items.length P Stt → Stt 0 h' → (∀ i w, i < items.length → P i w → ∃ v, items[i]? = some v ∧ v.Is w) →
      (∀ b ∈ fp, g.get? b = none ∨ (lk = some b ∧ b ∉ wr)) → (∀ b ∈ wr, g.get? b = none) → (∀ i h, Stt i h → ∀ b ∈ fp, ∃ o, h.get? b = some o) →
      (∀ b o, g.get? b = some o → h'.get? b = some o) → K (.ref I) { s with heap := h', toks := tk }) →
    wpAny G.M X.A (eval iter X.env) (fun xv s₁ => wpAny G.M X.A (pyIter xv) K E s₁) E s

section
variable {G : GX} {X : FX} {σ : AS} {R : Fl → AS → Prop} {x : Str} {pos px p : Pos} {iter : Expr} {body : List Stmt}
theorem Src.toX {items : List AV} {lk : Option Addr} (h : Src G X σ iter items lk) : SrcX G X σ iter fun H i l => H = σ.H ∧ i = items ∧ l = lk := by
  intro s K E ha hK
  exact h s K E ha fun I fp wr P Stt h' tk W st0 hP hfp hwr hlive hk => hK s.heap σ.H items lk ha .refl ⟨rfl, rfl, rfl⟩ I fp wr P Stt h' tk W st0 hP hfp hwr hlive hk
theorem St.forX {R₁ : AH → List AV → Option Addr → Prop} (ok : X.Ok G) (hx : X.cs.names.lookup x = some .local) (src : SrcX G X σ iter R₁)
    (go : ∀ H₁ items lk, R₁ H₁ items lk → ∃ J : Nat → AS → Prop, (∀ l, lk = some l → (∃ o, X.h₀.get? l = some o) ∨ ∃ o, ∀ i τ, J i τ → (l, AO.obj o) ∈ τ.H) ∧ J 0 { σ with H := H₁ } ∧
      (∀ i τ v, items[i]? = some v → J i τ → Ss G X (τ.set x v) body fun f τ' => match f with | .next | .cont => J (i + 1) τ' | .brk => R .next τ' | .ret v => R (.ret v) τ') ∧
      (∀ τ, J items.length τ → R .next τ)) (hs : ∀ x, foldedSetIterable iter X.env x = pure x := by intro _; rfl) : St G X σ (.For (.Name x px) iter body [] pos) R := by
  intro s Q E ha hQ
  refine wpAny_For (src s _ _ ha fun g H₁ items lk ag zg hg I fp wr P Stt h₁ tk₁ W st0 hP hfp hwr hlive hk₁ => ?_) hs
  obtain ⟨J, hl, h0, turn, done⟩ := go H₁ items lk hg
  replace hQ : ∀ f fl h' tk τ, At X τ h' → Step X H₁ g τ.H h' → f.Is fl → R f τ → Q fl { s with heap := h', toks := tk } := fun f fl h' tk τ a z i r => hQ f fl h' tk τ a (zg.trans z a) i r
  clear zg ha
  have ha := ag
  clear ag
  have ha₁ : At X { σ with H := H₁ } h₁ := ha.keep hk₁
  have hwrL : X.L ∉ wr := fun hm => by obtain ⟨o, e⟩ := ha.live; rw [hwr _ hm] at e; cases e
  have hfpL : X.L ∉ fp := fun hm => by
    obtain ⟨oL, eL⟩ := ha.live
    rcases hfp _ hm with e | ⟨e, _⟩
    · rw [e] at eL; cases eL
    · rcases hl _ e with ⟨o, e2⟩ | ⟨o, e2⟩
      · obtain ⟨m, F, _⟩ := ha.fr
        exact absurd (Nat.lt_of_lt_of_le (Heap.lt_size e2) F.above) (Nat.lt_irrefl _)
      · obtain ⟨_, _, _, h3, _⟩ := ha.hp _ (e2 0 _ h0)
        exact h3 rfl
  have hwr0 : ∀ b ∈ wr, X.h₀.get? b = none := fun b hb => by
    cases q : X.h₀.get? b with
    | none => rfl
    | some o => have := hwr b hb; rw [ha.old q] at this; cases this
  have hd0 : ∀ b ∈ fp, g.get? b = none → b ∉ H₁.map (·.1) := by
    intro b _ e hm
    obtain ⟨p, hp, e2⟩ := List.mem_map.mp hm
    obtain ⟨o, h1, _⟩ := ha.hp p hp
    have e3 : p.1 = b := e2
    rw [e3, e] at h1
    cases h1
  refine codeAny_forLoop (fun k s' => ∃ h' tk τ i, s' = { s with heap := h', toks := tk } ∧ At X τ h' ∧ Step X H₁ g τ.H h' ∧ Stt i h' ∧ (∀ b ∈ fp, g.get? b = none → b ∉ τ.H.map (·.1)) ∧ J i τ ∧ i ≤ items.length ∧ k = items.length + 1 - i) ?_ (items.length + 1)
    ⟨h₁, tk₁, { σ with H := H₁ }, 0, rfl, ha₁, .keep hk₁, st0, hd0, h0, Nat.zero_le _, rfl⟩
  rintro k s' ⟨h', tk, τ, i, rfl, a, z, st, hfr, hJ, hi, rfl⟩
  have hwd : ∀ b ∈ wr, b ∉ τ.H.map (·.1) := fun b hb => hfr b (W.sub b hb) (hwr b hb)
  by_cases hlt : i < items.length
  · refine W.item i _ _ _ hlt st fun w h₂ tk₂ hPw st₂ hk₂ => ?_
    obtain ⟨v, hv, hi'⟩ := hP i w hlt hPw
    have a₂ : At X τ h₂ := a.keepBut hk₂ hwrL hwr0 hwd
    have z₂ : Step X H₁ g τ.H h₂ := ⟨fun b o e hL hd => hk₂ b o (fun hb => by rw [hwr b hb] at e; cases e) (z.fr b o e hL hd), z.dm⟩
    refine wpAny_assign_Name ?_
    obtain ⟨m, F, hm⟩ := a₂.fr
    refine wpAny_storeName_local (env := X.env) hx F.ns (fun h₃ hn hs => ?_) (by
      show (X.cs.kind == .class || (X.cs.kind == .module && X.L != mainGlobals)) = false
      rw [ok.fn]; rfl)
    have a₃ : At X (τ.set x v) h₃ := a₂.store F hm hn hs hi'
    have z₃ : Step X H₁ g τ.H h₃ := z₂.trans (σ₂ := τ.set x v) (.frame hs) a₃
    have st₃ : Stt (i + 1) h₃ := W.frame _ _ _ st₂ fun b hb o e => (hs.2 b fun q => hfpL ((show b = X.L from q) ▸ hb)).trans e
    refine turn i τ v hv hJ _ _ _ a₃ fun f fl h₄ tk₄ τ' a₄ z₄ hf hR => ?_
    have z' : Step X H₁ g τ'.H h₄ := z₃.trans z₄ a₄
    have back : J (i + 1) τ' → ∃ m, m < items.length + 1 - i ∧ ∃ h' tk τ j, ({ s with heap := h₄, toks := tk₄ } : Shared) = { s with heap := h', toks := tk } ∧ At X τ h' ∧ Step X H₁ g τ.H h' ∧ Stt j h' ∧ (∀ b ∈ fp, g.get? b = none → b ∉ τ.H.map (·.1)) ∧ J j τ ∧ j ≤ items.length ∧ m = items.length + 1 - j := by
      intro hJ'
      refine ⟨items.length + 1 - (i + 1), by omega, h₄, tk₄, τ', i + 1, rfl, a₄, z', ?_, ?_, hJ', hlt, rfl⟩
      · refine W.frame _ _ _ st₃ fun b hb o e => ?_
        rcases hfp b hb with e1 | ⟨e1, _⟩
        · exact z₄.fr b o e (fun q => hfpL (q ▸ hb)) (hfr b hb e1)
        · rcases hl _ e1 with ⟨o1, e2⟩ | ⟨o1, e2⟩
          · have e3 := a₃.old e2
            rw [e] at e3; cases e3
            exact a₄.old e2
          · have e3 := a₃.objAt (e2 i τ hJ)
            rw [e] at e3; cases e3
            exact a₄.objAt (e2 (i + 1) τ' hJ')
      · intro b hb e1 hm
        obtain ⟨p, hp, e2⟩ := List.mem_map.mp hm
        have e3 : p.1 = b := e2
        rcases z₄.dm p hp with q | q
        · exact hfr b hb e1 (e3 ▸ q)
        · obtain ⟨o, e4⟩ := hlive _ _ st₃ b hb
          have q' : h₃.get? p.1 = none := q
          rw [e3, e4] at q'; cases q'
    cases f with
    | next => cases hf; exact back hR
    | cont => cases hf; exact back hR
    | brk => cases hf; exact hQ .next .next h₄ tk₄ τ' a₄ z' rfl hR
    | ret v => obtain ⟨w, rfl, iw⟩ := hf; exact hQ (.ret v) (.ret w) h₄ tk₄ τ' a₄ z' ⟨w, rfl, iw⟩ hR
  · have hin : i = items.length := by omega
    subst hin
    refine W.done _ _ _ st fun h₂ tk₂ hk₂ => wpAny_execs_nil ?_
    have a₂ : At X τ h₂ := a.keepBut hk₂ hwrL hwr0 hwd
    exact hQ .next .next h₂ tk₂ τ a₂ ⟨fun b o e hL hd => hk₂ b o (fun hb => by rw [hwr b hb] at e; cases e) (z.fr b o e hL hd), z.dm⟩ rfl (done τ hJ)
end

section
variable {G : GX} {X : FX} {σ : AS} {R : AV → AH → Prop} {pos p : Pos} {l r o : Expr} {vs : List AV}
/-- a list of the ledger, as it is -/
theorem At.exact {h : Heap} {pre post : AH} {d : Addr} {ao : AO} (ha : At X σ h) (hH : σ.H = pre ++ (d, ao) :: post) : ∃ o, ao.Is o ∧ At X { σ with H := pre ++ (d, .obj o) :: post } h := by
  obtain ⟨o, e1, e2, e3, e4⟩ := ha.hp (d, ao) (by rw [hH]; simp)
  exact ⟨o, e2, ha.upd (h' := h) (o' := o) (ao' := .obj o) hH ⟨rfl, fun _ _ => rfl⟩ e1 rfl⟩
theorem Step.exact {H : AH} {h h' : Heap} {pre post : AH} {d : Addr} {ao ao' : AO} (z : Step X H h (pre ++ (d, ao) :: post) h') : Step X H h (pre ++ (d, ao') :: post) h' := by
  refine ⟨z.fr, fun p hp => ?_⟩
  rcases List.mem_append.mp hp with q | q
  · exact z.dm p (List.mem_append_left _ q)
  · rcases List.mem_cons.mp q with rfl | q
    · exact z.dm (d, ao) (by simp)
    · exact z.dm p (List.mem_append_right _ (.tail _ q))
theorem SrcX.list {iter : Expr} {R₁ : AV → AH → Prop} {R₂ : AH → List AV → Option Addr → Prop} (he : Ex G X σ iter R₁)
    (h : ∀ v H, R₁ v H → ∃ d vs pre post, v = .val (.ref d) ∧ H = pre ++ (d, .list vs) :: post ∧ ∀ o, (AO.list vs).Is o → R₂ (pre ++ (d, .obj o) :: post) vs (some d)) : SrcX G X σ iter R₂ := by
  intro s K E ha hK
  refine he s _ _ ha fun w v h' tk H' a z i rr => ?_
  obtain ⟨d, vs, pre, post, rfl, e, hR⟩ := h v H' rr
  cases i
  subst e
  obtain ⟨ob, ho, a'⟩ := a.exact (σ := { σ with H := _ }) rfl
  have hl : LAt X (pre ++ (d, .obj ob) :: post) d vs := .inr (.inl ⟨ob, by simp, ho⟩)
  obtain ⟨ws, il, hi⟩ := hl.isList a'
  obtain ⟨oa, ea⟩ := hl.live a'
  refine wpAny_pyIter_list il ?_
  have hne : d ≠ h'.objs.size := Nat.ne_of_lt (Heap.lt_size ea)
  have W := Walks.list (prog := G.prog) (w := G.w) (A := X.A) rfl h'.objs.size d hne ws.toArray
  rw [show ws.toArray.size = vs.length from by simp [hi.length]] at W
  refine hK h' _ _ _ a' z.exact (hR ob ho) _ _ _ _ _ _ _ W ⟨⟨_, Heap.get?_push_size _ rfl, rfl, rfl⟩, il.at fun o e => Heap.get?_push_of_some _ e⟩ (fun i w _ hw => hi.get' (by simpa using hw)) ?_ ?_ ?_ (fun _ _ e => Heap.get?_push_of_some _ e)
  · intro b hb
    rcases List.mem_cons.mp hb with rfl | hb
    · exact .inl (get_size _)
    · cases List.mem_singleton.mp hb
      exact .inr ⟨rfl, fun hm => hne (List.mem_singleton.mp hm)⟩
  · intro b hb; cases List.mem_singleton.mp hb; exact get_size _
  · rintro i h ⟨⟨o, e, _⟩, ⟨o', e', _⟩⟩ b hb
    rcases List.mem_cons.mp hb with rfl | hb
    · exact ⟨o, e⟩
    · cases List.mem_singleton.mp hb; exact ⟨o', e'⟩
theorem SrcX.rev {f : Str} {R₁ : AV → AH → Prop} {R₂ : AH → List AV → Option Addr → Prop} (hf : Ev G X σ (.Name f p) (.val (.type "reversed"))) (he : Ex G X σ o R₁)
    (h : ∀ v H, R₁ v H → ∃ d vs pre post, v = .val (.ref d) ∧ H = pre ++ (d, .list vs) :: post ∧ ∀ o, (AO.list vs).Is o → R₂ (pre ++ (d, .obj o) :: post) vs.reverse (some d))
    (hse : starEach [o] X.env = [(false, eval o X.env)] := by rfl) : SrcX G X σ (.Call (.Name f p) [o] [] pos) R₂ := by
  intro s K E ha hK
  refine wpAny_Call_NameR (hf s _ _ ha fun w tk i => ?_)
  cases i
  refine PyProof.Rows.callWith_type1 (wpAny_items_cons (he _ _ _ ha fun w v h' tk' H' a z i rr => wpAny_items_nil ?_) hse) hse rfl
  obtain ⟨d, vs, pre, post, rfl, e, hR⟩ := h v H' rr
  cases i
  subst e
  obtain ⟨ob, ho, a'⟩ := a.exact (σ := { σ with H := _ }) rfl
  have hl : LAt X (pre ++ (d, .obj ob) :: post) d vs := .inr (.inl ⟨ob, by simp, ho⟩)
  obtain ⟨ws, il, hi⟩ := hl.isList a'
  obtain ⟨oa, ea⟩ := hl.live a'
  refine call_reversed_list il ?_
  have hne : d ≠ h'.objs.size := Nat.ne_of_lt (Heap.lt_size ea)
  have W := Walks.listRev (prog := G.prog) (w := G.w) (A := X.A) rfl h'.objs.size d hne ws.toArray
  rw [show ws.toArray.size = vs.reverse.length from by simp [hi.length]] at W
  have hrev : (h'.push (revObj d ((ws.toArray.size : Int) - 1))).IsRevIter h'.objs.size d ((ws.toArray.size : Int) - 1) := ⟨_, Heap.get?_push_size _ rfl, rfl, rfl⟩
  refine wpAny_pyIter_revIter hrev ?_
  refine hK h' _ _ _ a' z.exact (hR ob ho) _ _ _ _ _ _ _ W ⟨Nat.zero_le _, by simpa [hi.length] using hrev, il.at fun o e => Heap.get?_push_of_some _ e⟩ (fun i w hi2 hw => ?_) ?_ ?_ ?_ (fun _ _ e => Heap.get?_push_of_some _ e)
  · simp only [List.length_reverse, List.getElem?_toArray] at hw
    obtain ⟨v, h1, h2⟩ := hi.get' hw
    rw [List.length_reverse] at hi2
    exact ⟨v, by rw [List.getElem?_reverse hi2]; exact h1, h2⟩
  · intro b hb
    rcases List.mem_cons.mp hb with rfl | hb
    · exact .inl (get_size _)
    · cases List.mem_singleton.mp hb
      exact .inr ⟨rfl, fun hm => hne (List.mem_singleton.mp hm)⟩
  · intro b hb; cases List.mem_singleton.mp hb; exact get_size _
  · rintro i h ⟨_, ⟨o, e, _⟩, ⟨o', e', _⟩⟩ b hb
    rcases List.mem_cons.mp hb with rfl | hb
    · exact ⟨o, e⟩
    · cases List.mem_singleton.mp hb; exact ⟨o', e'⟩

/-- list + list -/
theorem Ex.addList {R₁ : AV → AH → Prop} (hl : Ex G X σ l R₁) (hr : ∀ v H, R₁ v H → Ex G X { σ with H := H } r fun w H' => ∃ a c xs ys, v = .val (.ref a) ∧ w = .val (.ref c) ∧ LAt X H' a xs ∧ LAt X H' c ys ∧ xs.length + ys.length ≤ 2 ^ 20 ∧ ∀ d, d ∉ H'.map (·.1) → R (.val (.ref d)) ((d, .list (xs ++ ys)) :: H')) : Ex G X σ (.BinOp l .Add r pos) R := by
  intro s Q E ha hQ
  refine wpAny_BinOp (hl s _ _ ha fun w v h' tk H' a z i rr => ?_)
  refine hr v H' rr _ _ _ a fun w₂ v₂ h₂ tk₂ H₂ a₂ z₂ i₂ ⟨p, q, xs, ys, e1, e2, l1, l2, hsz, hR⟩ => ?_
  subst e1 e2
  cases i; cases i₂
  obtain ⟨ws, il1, hi1⟩ := l1.isList (σ := { σ with H := H₂ }) a₂
  obtain ⟨us, il2, hi2⟩ := l2.isList (σ := { σ with H := H₂ }) a₂
  obtain ⟨m, F, hm⟩ := a₂.fr
  refine add_lists F (allNews_news X.h₀ h₂ X.L) il1 il2 (fun h₃ F₃ N₃ => ?_) (by rw [hi1.length, hi2.length]; unfold sizeLine; omega)
  obtain ⟨a₃, z₃⟩ := a₂.made (ao := .list (xs ++ ys)) hm F₃ N₃ (get_size _) ⟨_, 0, rfl, hi1.append hi2⟩
  exact hQ _ (.val (.ref h₂.objs.size)) h₃ tk₂ _ a₃ ((z.trans z₂ a₂).trans z₃ a₃) rfl (hR _ (List.nodup_cons.mp a₃.nd).1)

/-- an edge of a slice -/
def Part (G : GX) (X : FX) (σ : AS) (e : Option Expr) (k : Option Int) : Prop :=
  ∀ (s : Shared) (Q E : Value → Shared → Prop), At X σ s.heap → (∀ w tk, IsPart w k → Q w { s with toks := tk }) → wpAny G.M X.A (evalPart e X.env) Q E s
theorem Part.none : Part G X σ .none .none := fun s Q E ha hQ => by rw [evalPart_none]; exact wpAny_pure (hQ _ s.toks .none)
theorem Part.some {e : Expr} {k : Int} (h : Ev G X σ e (.int k)) : Part G X σ (.some e) (.some k) := fun s Q E ha hQ => by
  rw [evalPart_some]
  exact h s Q E ha fun w tk ⟨t, e⟩ => by subst e; exact hQ _ tk (.int _ _)
def sliceV {α : Type} (vs : List α) (lo hi : Option Int) : List α := (vs.drop (kms_lo lo vs.length)).take (kms_hi hi vs.length - kms_lo lo vs.length)
theorem AllIs.slice {ws : List Value} (h : AllIs vs ws) (lo hi : Option Int) : AllIs (sliceV vs lo hi) (kms_pick ws lo hi) := by
  unfold sliceV kms_pick
  rw [h.length]
  exact (h.drop _).take _
theorem sliceV_il (l : List Int) (lo hi : Option Int) : sliceV (il l) lo hi = il (sliceV l lo hi) := by simp [sliceV, il]
theorem Ex.slice {lo hi : Option Expr} {a b : Option Int} {R₁ : AV → AH → Prop} (ho : Ex G X σ o R₁)
    (h : ∀ v H, R₁ v H → ∃ c vs, v = .val (.ref c) ∧ LAt X H c vs ∧ vs.length ≤ 2 ^ 20 ∧ Part G X { σ with H := H } lo a ∧ Part G X { σ with H := H } hi b ∧ ∀ d, d ∉ H.map (·.1) → R (.val (.ref d)) ((d, .list (sliceV vs a b)) :: H)) :
    Ex G X σ (.Subscript o (.Slice lo hi none p) pos) R := by
  intro s Q E ha hQ
  refine Subscript_ (ho s _ _ ha fun w v h' tk H' a' z i rr => ?_)
  obtain ⟨c, vs, rfl, hl, hsz, pl, pu, hR⟩ := h v H' rr
  cases i
  refine wpAny_Slice (pl _ _ _ a' fun vl tk₁ il => pu _ _ _ a' fun vu tk₂ iu => ?_)
  rw [evalPart_none]
  refine wpAny_pure ?_
  obtain ⟨ws, il1, hi1⟩ := hl.isList (σ := { σ with H := H' }) a'
  have a₂ : At X { σ with H := H' } (h'.push { cls := .type "slice", data := .fields #[vl, vu, .none] }) := a'.keep fun _ _ e => Heap.get?_push_of_some _ e
  refine tail_any (ops := [.ref h'.objs.size, .ref c]) (Heap.IsList.typeIs (s := { s with heap := h'.push { cls := .type "slice", data := .fields #[vl, vu, .none] }, toks := tk₂ }) (il1.push _)) list_getitem_lookup
    (wpAny_getItem_list_slice (il1.push _) (Heap.IsSliceOf.new ..) il iu .none (by simp) ?_ (by simp [hi1.length, sizeLine]; omega)) rfl
  rw [kms_pick_eq]
  have a₃ := a₂.push (ao := .list (sliceV vs a b)) (o := { cls := .type "list", data := .seq (kms_pick ws.toArray.toList a b).toArray }) rfl ⟨_, 0, rfl, hi1.slice a b⟩
  have z₂ : Step X H' h' H' (h'.push { cls := .type "slice", data := .fields #[vl, vu, .none] }) := .keep fun _ _ e => Heap.get?_push_of_some _ e
  exact hQ _ (.val (.ref _)) _ tk₂ _ a₃ (z.trans (σ₂ := { σ with H := _ }) (z₂.trans (σ₂ := { σ with H := _ }) .push a₃) a₃) rfl (hR _ (List.nodup_cons.mp a₃.nd).1)

/-- abs -/
theorem Ev.abs {f : Str} {e : Expr} {a : Int} (hf : Ev G X σ (.Name f p) (.val (.builtin "abs"))) (h : Ev G X σ e (.int a)) (he : starEach [e] X.env = [(false, eval e X.env)] := by rfl) : Ev G X σ (.Call (.Name f p) [e] [] pos) (.int (if a < 0 then -a else a)) := by
  intro s Q E ha hQ
  refine wpAny_Call_NameR (hf s _ _ ha fun w tk i => ?_)
  cases i
  refine callWith_builtin1 (wpAny_items_cons (h _ _ _ ha fun w tk' ⟨t, e⟩ => wpAny_items_nil ?_) he) he rfl
  subst e
  exact call_abs_int fun u tk => hQ _ tk ⟨u, rfl⟩
end

section
variable {prog : Program} {w : World} {A : Around} {E : Value → Shared → Prop} {s : Shared}
theorem draw_list {it t : Addr} {items : Array Value} (hne : t ≠ it) : ∀ (n i : Nat) (s : Shared) (Q : List Value → Shared → Prop), s.heap.IsListIter it t i → s.heap.IsList t items → i + n ≤ items.size →
    (∀ h', h'.IsListIter it t (i + n) → Heap.SameBut it s.heap h' → Q ((items.toList.drop i).take n) { s with heap := h' }) → wpAny (model prog w) A (draw (.ref it) n) Q E s
  | 0, i, s, Q, hit, _, _, hQ => by
    show wpAny _ _ (pure []) Q E s
    exact wpAny_pure (by simpa using hQ s.heap hit (Heap.SameBut.refl ..))
  | n + 1, i, s, Q, hit, ht, hle, hQ => by
    have hlt : i < items.size := by omega
    show wpAny _ _ (pyNext (.ref it) >>= _) Q E s
    refine wpAny_bind (wpAny_pyNext_list_item hit ht (x := items[i]) (by simp [hlt]) fun h₁ hit₁ hs₁ => ?_)
    refine wpAny_bind (wpAny_holding (draw_list hne n (i + 1) _ _ hit₁ (ht.extBut hs₁.extBut hne) (by omega) fun h₂ hit₂ hs₂ => wpAny_pure ?_))
    have hd : items.toList.drop i = items[i] :: items.toList.drop (i + 1) := by simp [List.drop_eq_getElem_cons, hlt]
    have := hQ h₂ (by rw [show i + (n + 1) = i + 1 + n by omega]; exact hit₂) (hs₁.trans hs₂)
    rw [hd, List.take_succ_cons] at this
    exact this
theorem unpackItems_list {t : Addr} {items : Array Value} {Q : List Value → Shared → Prop} (hh : A.handled = none) (ht : s.heap.IsList t items)
    (hQ : ∀ h', Heap.ExtBut s.heap.objs.size s.heap h' → Q items.toList { s with heap := h' }) : wpAny (model prog w) A (unpackItems (.ref t) items.size none) Q E s := by
  have hlt : t ≠ s.heap.objs.size := by obtain ⟨o, ho, _⟩ := ht; exact Nat.ne_of_lt (Heap.lt_size ho)
  unfold unpackItems
  refine wpAny_bind ?_
  unfold notIterableAtAll
  refine wpAny_bind (wpAny_specialOf ht.typeIs PySem.F.slot_list_iter.lookup ?_)
  refine wpAny_pure ?_
  simp only [Bool.false_eq_true, if_false]
  refine wpAny_bind (wpAny_holding (wpAny_pyIter_list ht ?_))
  refine wpAny_bind (wpAny_holding (draw_list hlt items.size 0 _ _ ⟨_, Heap.get?_push_size _ rfl, rfl, rfl⟩ (ht.push _) (by omega) fun h₁ hit₁ hs₁ => ?_))
  have hall : List.take items.size (List.drop 0 items.toList) = items.toList := by
    rw [List.drop_zero]; exact List.take_of_length_le (by simp)
  rw [hall]
  rw [if_neg (by simp)]
  have ht₁ : h₁.IsList t items := (ht.push _).extBut hs₁.extBut hlt
  refine wpAny_bind (wpAny_holding (wpAny_pyNext_list_end hh hit₁ ht₁ (by simp) fun h₂ he₂ => ?_))
  simp only [Option.isSome_none, Bool.false_eq_true, if_false]
  exact wpAny_pure (hQ h₂ fun b o hb e => he₂ b o hb (hs₁.extBut b o hb (Heap.get?_push_of_some _ e)))
end
section
variable {G : GX} {X : FX} {σ : AS} {pos : Pos}
/-- a list unpacked: names in order -/
theorem St.unpackL {R : Fl → AS → Prop} {value : Expr} {elts : List Expr} {k : Nat} {tpos : Pos} {R₁ : AV → AH → Prop} (he : Ex G X σ value R₁)
    (hR : ∀ v H, R₁ v H → ∃ a us, v = .val (.ref a) ∧ LAt X H a us ∧ (assignEach elts X.env).length = us.length ∧ Sns G X { σ with H := H } ((assignEach elts X.env).map (·.2)) us fun σ' => R .next σ')
    (hstar : (assignEach elts X.env).findIdx? (·.1) = none := by rfl)
    (hs : swapsWithSole [.Tuple elts k tpos] value pos.line X.env = pure false := by rfl)
    (hw : swappedStores [.Tuple elts k tpos] value X.env = pure none := by rfl) : St G X σ (.Assign [.Tuple elts k tpos] value pos) R := by
  intro s Q E ha hQ
  refine Assign_Tuple (he s _ _ ha fun w v h' tk H' a z i r => ?_) hs hw
  obtain ⟨d, us, rfl, hm, hn, hst⟩ := hR v H' r
  cases i
  obtain ⟨ws, il, his⟩ := hm.isList (σ := { σ with H := H' }) a
  rw [arm_assign_Tuple]
  refine wpAny_bind (wpAny_standAt ?_)
  unfold unpack
  rw [hstar, show (assignEach elts X.env).length = ws.toArray.size from by rw [hn]; simp [his.length]]
  refine wpAny_bind (wpAny_holding (unpackItems_list rfl il fun h'' hx => ?_))
  have hk : ∀ b o, h'.get? b = some o → h''.get? b = some o := fun b o e => hx b o (fun q => by have q' : b = h'.objs.size := q; rw [q', get_size] at e; cases e) e
  refine hst _ _ _ _ (a.keep hk) his fun h₃ tk₃ σ₃ a₃ z₃ r₃ => ?_
  refine hQ .next .next h₃ tk₃ σ₃ a₃ ?_ rfl r₃
  exact (z.trans (σ₂ := { σ with H := H' }) (.keep hk) (a.keep hk)).trans z₃ a₃
end
end Mine
namespace Mine
open PySem PySem.W PyProof.Rows PySem.Spec PySem.Calls
open PySem.Builtin.Int (intBits)
section
variable {G : GX} {X : FX} {σ : AS} {R : AV → AH → Prop} {pos p : Pos} {l r o e : Expr} {vs : List AV}
theorem Ex.sub {R' : AV → AH → Prop} (h : Ex G X σ e R) (k : ∀ v H, R v H → ∃ H', Sub H' H ∧ R' v H') : Ex G X σ e R' :=
  fun s Q E ha hQ => h s Q E ha fun w v h' tk H' a z i r => by
    obtain ⟨H2, hs, r2⟩ := k v H' r
    exact hQ w v h' tk H2 (a.sub (σ' := { σ with H := H2 }) (fun _ _ e => e) hs) (z.sub hs.mem) i r2
/-- append of what a call hands over -/
theorem Ex.appendX {d : Addr} {R₁ : AV → AH → Prop} {apos : Pos} (ho : Ev G X σ o (.val (.ref d))) (hm : (d, AO.list vs) ∈ σ.H) (hv : Ex G X σ e R₁)
    (h : ∀ v H, R₁ v H → ∃ pre post us, H = pre ++ (d, .list us) :: post ∧ us.length ≤ 2 ^ 23 ∧ R (.val .none) (pre ++ (d, .list (us ++ [v])) :: post))
    (he : ∃ pl, eval (.Call (.Attribute o (Str.ofString "append") apos) [e] [] pos) X.env = (do
      let ov ← eval o X.env
      standAt apos.atName
      let (f, first) ← holding [ov] (getMethod ov (Str.ofString "append") pl)
      callWith pos f first (backTo pos (starEach [e] X.env)) []))
    (hse : starEach [e] X.env = [(false, eval e X.env)] := by rfl) : Ex G X σ (.Call (.Attribute o (Str.ofString "append") apos) [e] [] pos) R := by
  intro s Q E ha hQ
  obtain ⟨pl, he⟩ := he
  refine MethodCall_ (ho s _ _ ha fun w tk i => ?_) he
  cases i
  obtain ⟨ws, n, il, his⟩ := ha.isL hm
  refine getMethod_list_append il rfl rfl ?_
  refine callWith_method1 (wpAny_items_cons (hv _ _ _ ha fun w v h' tk' H' a z iw rr => wpAny_items_nil ?_) hse) hse rfl
  obtain ⟨pre, post, us, hH, hsz, hR⟩ := h v H' rr
  obtain ⟨us', n', il', his'⟩ := a.isL (σ := { σ with H := H' }) (d := d) (vs := us) (by rw [hH]; simp)
  refine wpAny_list_append_plain ⟨n', il'⟩ (fun h'' ⟨n'', hl''⟩ hs' => ?_) (by simp [his'.length, sizeLine]; omega)
  have a₂ := a.upd (σ := { σ with H := H' }) hH hs' hl'' (ao' := .list (us ++ [v])) ⟨us' ++ [w], n'', by simp, his'.append ⟨iw, trivial⟩⟩
  exact hQ _ (.val .none) h'' tk' _ a₂ (z.trans (σ₂ := { σ with H := _ }) (hH ▸ .upd hs') a₂) rfl hR
theorem sliceV_from {α : Type} (vs : List α) (k : Nat) : sliceV vs (some (k : Int)) none = vs.drop k := by
  unfold sliceV kms_lo kms_hi
  dsimp only
  rw [if_neg (by omega), Int.toNat_natCast]
  rcases Nat.le_total k vs.length with q | q
  · rw [Nat.min_eq_left q]
    exact List.take_of_length_le (by simp)
  · rw [Nat.min_eq_right q, List.drop_of_length_le (Nat.le_refl _), List.drop_of_length_le q]
    simp
theorem sliceV_upto {α : Type} (vs : List α) (k : Nat) : sliceV vs none (some (k : Int)) = vs.take k := by
  unfold sliceV kms_lo kms_hi
  dsimp only
  rw [if_neg (by omega), Int.toNat_natCast, List.drop_zero, Nat.sub_zero]
  rcases Nat.le_total k vs.length with q | q
  · rw [Nat.min_eq_left q]
  · rw [Nat.min_eq_right q, List.take_of_length_le (Nat.le_refl _), List.take_of_length_le q]
theorem sliceV_run {α : Type} (vs : List α) (a b : Nat) (h : a ≤ b) : sliceV vs (some (a : Int)) (some (b : Int)) = (vs.drop a).take (b - a) := by
  unfold sliceV kms_lo kms_hi
  dsimp only
  rw [if_neg (by omega), if_neg (by omega), Int.toNat_natCast, Int.toNat_natCast]
  rcases Nat.le_total a vs.length with q | q
  · rw [Nat.min_eq_left q]
    rcases Nat.le_total b vs.length with q2 | q2
    · rw [Nat.min_eq_left q2]
    · rw [Nat.min_eq_right q2, List.take_of_length_le (by simp), List.take_of_length_le (by simp; omega)]
  · rw [Nat.min_eq_right q, List.drop_of_length_le (Nat.le_refl _), List.drop_of_length_le q]
    simp
theorem Sub.drop {p : Addr × AO} {H' H : AH} (h : Sub H' H) : Sub H' (p :: H) := h.trans .tail

/-- (script + [..][len(script):])[:k] -/
def headL (ns ds : List Int) : List Int := (ns ++ ds.drop ns.length).take ds.length
theorem headL_length (ns ds : List Int) : (headL ns ds).length = ds.length := by
  simp [headL, List.length_append, List.length_drop]
  omega
theorem headL_bits {ns ds : List Int} {B : Nat} (h1 : ∀ n ∈ ns, intBits n ≤ B) (h2 : ∀ n ∈ ds, intBits n ≤ B) : ∀ n ∈ headL ns ds, intBits n ≤ B := by
  intro n hn
  have := List.mem_of_mem_take hn
  rcases List.mem_append.mp this with q | q
  · exact h1 n q
  · exact h2 n (List.mem_of_mem_drop q)
theorem head_ex {A : Addr} {ns ds : List Int} {K : Nat} {es : List Expr} {sl ll cc : Expr} {p1 p2 p3 p4 p5 : Pos} (hA : ∀ H, LAt X H A (il ns)) (hn : ns.length ≤ 63) (hd : ds.length = K) (hk : K ≤ 100) (hs : ∀ H, Ev G X { σ with H := H } sl (.val (.ref A))) (hl : ∀ H, Ev G X { σ with H := H } ll (.int (ns.length : Nat))) (hc : ∀ H, Ev G X { σ with H := H } cc (.int (K : Nat)))
    (hes : EvL G X σ es (il ds)) :
    Ex G X σ (.Subscript (.BinOp sl .Add (.Subscript (.List es p1) (.Slice (some ll) none none p2) p3) p4) (.Slice none (some cc) none p5) pos) fun v H => ∃ d, v = .val (.ref d) ∧ H = (d, .list (il (headL ns ds))) :: σ.H := by
  refine Ex.slice (a := none) (b := some (K : Int)) (R₁ := fun v H => ∃ d g, v = .val (.ref d) ∧ H = (d, .list (il (ns ++ ds.drop ns.length))) :: g :: σ.H) (Ex.addList (R₁ := fun v H => v = .val (.ref A) ∧ H = σ.H) ((hs σ.H).toEx ⟨rfl, rfl⟩) ?_) ?_ |>.sub (R := fun v H => ∃ d d2 g, v = .val (.ref d) ∧ H = (d, .list (il (headL ns ds))) :: (d2, .list (il (ns ++ ds.drop ns.length))) :: g :: σ.H) ?_
  · rintro v H ⟨rfl, rfl⟩
    refine (Ex.slice (a := some (ns.length : Int)) (b := none) (R₁ := fun v H => ∃ d, v = .val (.ref d) ∧ H = (d, .list (il ds)) :: σ.H) (R := fun v H => ∃ d, v = .val (.ref d) ∧ ∃ d2, H = (d, .list (il (ds.drop ns.length))) :: (d2, .list (il ds)) :: σ.H) (Ex.list (R₁ := fun vs H => vs = il ds ∧ H = σ.H) (EvL.toX hes ⟨rfl, rfl⟩) ?_) ?_).sub ?_
    · rintro vs H d ⟨rfl, rfl⟩ _
      exact ⟨by simp [sizeLine]; omega, d, rfl, rfl⟩
    · rintro v H ⟨d, rfl, rfl⟩
      refine ⟨d, il ds, rfl, .inl (.head _), by simp; omega, Part.some (hl _), Part.none, fun d2 _ => ⟨d2, rfl, d, ?_⟩⟩
      rw [sliceV_il, sliceV_from]
    · rintro v H ⟨d, rfl, d2, rfl⟩
      refine ⟨(d, .list (il (ds.drop ns.length))) :: σ.H, .cons .tail, A, d, il ns, il (ds.drop ns.length), rfl, rfl, hA _, .inl (.head _), by simp; omega, fun d3 _ => ?_⟩
      exact ⟨d3, _, rfl, by rw [← List.map_append]⟩
  · rintro v H ⟨d, g, rfl, rfl⟩
    refine ⟨d, _, rfl, .inl (.head _), by simp; omega, Part.none, Part.some (hc _), fun d2 _ => ⟨d2, d, g, rfl, ?_⟩⟩
    rw [sliceV_il, sliceV_upto, ← hd]
    rfl
  · rintro v H ⟨d, d2, g, rfl, rfl⟩
    exact ⟨_, .cons (.drop .tail), d, rfl, rfl⟩
end
end Mine
namespace Mine
open PySem PySem.W PyProof.Rows PySem.Spec PySem.Calls
open PySem.Builtin.Int (intBits)

/-- pure expressions in a comprehension's own frame -/
def EvE (G : GX) (A : Around) (env : Env) (h : Heap) (e : Expr) (v : AV) : Prop :=
  ∀ (s : Shared) (Q E : Value → Shared → Prop), s.heap = h → (∀ w tk, v.Is w → Q w { s with toks := tk }) → wpAny G.M A (eval e env) Q E s
def TsE (G : GX) (A : Around) (env : Env) (h : Heap) (e : Expr) (b : Bool) : Prop :=
  ∀ (s : Shared) (Q : Bool → Shared → Prop) (E : Value → Shared → Prop), s.heap = h → (∀ tk, Q b { s with toks := tk }) → wpAny G.M A (isTrue e env (eval e env)) Q E s
section
variable {G : GX} {A : Around} {env : Env} {h : Heap} {l r o e : Expr} {a b c : Int} {pos : Pos} {x : Str} {v : AV}
theorem EvE.lit {k : Nat} : EvE G A env h (.Constant (.int a) k pos) (.int a) := fun s _ _ _ hQ => wpAny_Constant_int (hQ _ (s.toks + 1) ⟨_, rfl⟩)
theorem EvE.cast {d : Int} (h1 : EvE G A env h e (.int a)) (q : a = d) : EvE G A env h e (.int d) := q ▸ h1
theorem EvE.loc {w : Value} {m : Str → Option Value} (hk : env.kindOf x = some .local) (hf : env.scope.kind = .function) (hn : h.Ns env.locals m) (hm : m x = some w) (hi : v.Is w) (hd : (x == ("__debug__" : Str)) = false := by decide) : EvE G A env h (.Name x pos) v := by
  intro s Q E hs hQ
  subst hs
  exact wpAny_Name (wpAny_loadName_local (env := env) hf hk hn hm (hQ w s.toks hi)) hd
theorem EvE.cell {w : Value} {ca : Addr} (hf : env.scope.kind = .function) (hk : env.kindOf x = some .cell) (hc : env.cells.lookup x = some ca) (hv : h.IsCell ca (some w)) (hi : v.Is w) (hd : (x == ("__debug__" : Str)) = false := by decide) : EvE G A env h (.Name x pos) v := by
  intro s Q E hs hQ
  subst hs
  exact wpAny_Name (wpAny_loadName_cell hf hk hc hv (hQ w s.toks hi)) hd
theorem EvE.bin {op : Operator} (hl : EvE G A env h l (.int a)) (hr : EvE G A env h r (.int b))
    (hh : ∀ (s : Shared) (Q E : Value → Shared → Prop) t u, Q (.int c s.toks) { s with toks := s.toks + 1 } → wpAny G.M A (binaryOp op (.int a t) (.int b u)) Q E s) : EvE G A env h (.BinOp l op r pos) (.int c) := by
  intro s Q E hs hQ
  refine wpAny_BinOp (hl s _ _ hs fun w tk ⟨t, e⟩ => ?_)
  subst e
  refine hr _ _ _ hs fun w tk' ⟨u, e⟩ => ?_
  subst e
  exact hh _ _ _ _ _ (hQ _ (tk' + 1) ⟨_, rfl⟩)
theorem EvE.add (hl : EvE G A env h l (.int a)) (hr : EvE G A env h r (.int b)) : EvE G A env h (.BinOp l .Add r pos) (.int (a + b)) := .bin hl hr fun _ _ _ _ _ h => P.add_int h
theorem EvE.sub (hl : EvE G A env h l (.int a)) (hr : EvE G A env h r (.int b)) : EvE G A env h (.BinOp l .Sub r pos) (.int (a - b)) := .bin hl hr fun _ _ _ _ _ h => P.sub_int h
theorem EvE.mod (hl : EvE G A env h l (.int a)) (hr : EvE G A env h r (.int b)) (hb : 0 < b) : EvE G A env h (.BinOp l .Mod r pos) (.int (a % b)) :=
  .bin hl hr fun _ _ _ _ _ h => AutoIntOps.mod_1 (by simp; omega) (by rw [Int.fmod_eq_emod_of_nonneg _ (by omega)]; exact h)
theorem EvE.neg (he : EvE G A env h e (.int a)) : EvE G A env h (.UnaryOp .USub e pos) (.int (-a)) := by
  intro s Q E hs hQ
  refine wpAny_UnaryOp (he s _ _ hs fun w tk ⟨t, e⟩ => ?_)
  subst e
  exact P.neg_int (hQ _ (tk + 1) ⟨_, rfl⟩)
theorem TsE.cmp {op : CmpOp} {t : Bool} (hl : EvE G A env h l (.int a)) (hr : EvE G A env h r (.int b)) (hc : cmpI op a b = some t) (hm : behindInMarks op r = false := by with_unfolding_all rfl) : TsE G A env h (.Compare l [op] [r] pos) t := by
  intro s Q E hs hQ
  refine wpAny_isTrue_Compare1 (hl s _ _ hs fun w tk ⟨t, e⟩ => ?_) hm
  subst e
  refine hr _ _ _ hs fun w tk' ⟨u, e⟩ => ?_
  subst e
  exact cmp_ints hc (wpAny_truthy_bool (hQ tk'))
theorem EvE.ite {test t f : Expr} {k : Bool} (hc : TsE G A env h test k) (ht : k = true → EvE G A env h t v) (hf : k = false → EvE G A env h f v) : EvE G A env h (.IfExp test t f pos) v := by
  intro s Q E hs hQ
  refine wpAny_IfExp (hc s _ _ hs fun tk => ?_)
  cases k with
  | false => exact hf rfl _ _ _ hs hQ
  | true => exact ht rfl _ _ _ hs hQ
theorem EvE.item {i : Expr} {d : Addr} {k : Nat} {vs : List AV} {ws : List Value} (ho : EvE G A env h o (.val (.ref d))) (hi : EvE G A env h i (.int (k : Int))) (hl : h.IsList d ws.toArray) (his : AllIs vs ws) (hk : vs[k]? = some v) (hfit : k < 2 ^ 62)
    (hs : ∀ t, subscripted i false (.ref d) (.int (k : Int) t) = operate [.ref d, .int (k : Int) t] (getItem (.ref d) (.int (k : Int) t)) := by intro _; with_unfolding_all rfl) : EvE G A env h (.Subscript o i pos) v := by
  intro s Q E hh hQ
  refine Subscript_ (ho s _ _ hh fun w tk e => ?_)
  cases e
  refine hi _ _ _ hh fun w tk' ⟨t, e⟩ => ?_
  subst e
  subst hh
  obtain ⟨w, hw, hi'⟩ := his.get hk
  exact tail_any (s := { s with toks := tk' }) (Heap.IsList.typeIs (s := { s with toks := tk' }) hl) slot_list_getitem.lookup (wpAny_getItem_list hl (by omega) (by omega) (by simpa using hw) (hQ w _ hi')) (hs t)
end
section
variable {G : GX} {X : FX} {σ : AS} {R : AV → AH → Prop} {pos px p : Pos} {elt iter : Expr} {x : Str} {scope : Scope} {cl : List (Str × Addr)}
theorem At.fpLive {fp : List Addr} {h : Heap} (hl : ∀ b ∈ fp, ∃ o, h.get? b = some o) : ∀ b ∈ fp, b < h.objs.size := fun b hb => by
  obtain ⟨o, e⟩ := hl b hb
  exact Heap.lt_size e
theorem paired_all {f : Int → Int} {vs ys : List Value} (h : Paired (fun v y => ∀ n t, v = .int n t → ∃ u, y = .int (f n) u) vs ys) : ∀ xs : List Int, vs.length = xs.length → (∀ (j : Nat) (v : Value), vs[j]? = some v → ∃ n t, xs[j]? = some n ∧ v = Value.int n t) → AllIs (il (xs.map f)) ys := by
  induction h with
  | nil =>
    intro xs hl _
    match xs, hl with
    | [], _ => trivial
  | cons h1 _ ih =>
    intro xs hl hv
    match xs, hl with
    | x :: xs, hl =>
      obtain ⟨n, t, e1, e2⟩ := hv 0 _ rfl
      cases e1
      obtain ⟨u, e3⟩ := h1 _ _ e2
      exact ⟨⟨u, e3⟩, ih xs (by simpa using hl) fun j v e => hv (j + 1) v e⟩
/-- a comprehension over ints that gives ints -/
theorem Ex.compI {R₁ : AH → List AV → Option Addr → Prop} (f : Int → Int) (hclos : closureFor scope X.env = pure cl) (hcell : ∀ y ∈ scope.names, y.2 ≠ .cell) (hkind : scope.kind = .function)
    (hnames : ∀ y ∈ scope.names, y.2 = .local → scope.names.lookup y.1 = some .local) (hx : scope.names.lookup x = some .local) (src : SrcX G X σ iter R₁)
    (go : ∀ H₁ items lk, R₁ H₁ items lk → ∃ xs : List Int, items = il xs ∧ xs.length ≤ 2 ^ 20 ∧
      (∀ n ∈ xs, ∀ C h m t, At X { σ with H := H₁ } h → h.Ns C m → m x = some (.int n t) → EvE G X.A (compEnvC scope cl C X.env) h elt (.int (f n))) ∧
      ∀ d, d ∉ H₁.map (·.1) → R (.val (.ref d)) ((d, .list (il (xs.map f))) :: H₁))
    (hs : ∀ x, foldedSetIterable iter X.env x = pure x := by intro _; rfl) : Ex G X σ (.ListComp elt [⟨.Name x px, iter, [], 0⟩] scope pos) R := by
  intro s Q E ha hQ
  refine wpAny_ListComp_free (p := fun _ => true) (F := fun v y => ∀ n t, v = .int n t → ∃ u, y = .int (f n) u) hclos hcell hkind hnames hx (src s _ _ ha fun g H₁ items lk ag zg hg I fp wr P Stt h₁ tk₁ W st0 hP hfp hwr hlive hk₁ => ?_) hs
  obtain ⟨xs, rfl, hlen, helt, hR⟩ := go H₁ items lk hg
  have W' : Walks G.prog G.w X.A I fp wr (il xs).length (fun i v => i < (il xs).length ∧ P i v) Stt :=
    { sub := W.sub, frame := W.frame, item := fun i s Q E hi st hQ => W.item i s Q E hi st fun v h' tk hp => hQ v h' tk ⟨hi, hp⟩, done := W.done, self := W.self }
  have hwrL : X.L ∉ wr := fun hm => by obtain ⟨o, e⟩ := ag.live; rw [hwr _ hm] at e; cases e
  have hwr0 : ∀ b ∈ wr, X.h₀.get? b = none := fun b hb => by
    cases q : X.h₀.get? b with
    | none => rfl
    | some o => have := hwr b hb; rw [ag.old q] at this; cases this
  have hwd : ∀ b ∈ wr, b ∉ H₁.map (·.1) := by
    intro b hb hm
    obtain ⟨p, hp, e2⟩ := List.mem_map.mp hm
    obtain ⟨o, h1, _⟩ := ag.hp p hp
    have e3 : p.1 = b := e2
    rw [e3, hwr b hb] at h1
    cases h1
  refine ⟨I, fp, wr, _, _, Stt, rfl, W', by rw [List.length_map]; unfold sizeLine; omega, st0, At.fpLive (hlive 0 h₁ st0), ⟨fun C i v s₃ m₃ E' hC hPv hn hm hk htk => ?_, fun C i v s₃ m₃ E' hC hPv _ hn hm hk htk => ?_⟩, fun D h' tk ys vs hD hl hpl hvl hPs hF hk => ?_⟩
  · exact wpAny_pure ⟨rfl, s₃.heap, s₃.toks, rfl, fun _ _ e => e⟩
  · obtain ⟨a, ha1, ha2⟩ := hP i v hPv.1 hPv.2
    rw [List.getElem?_map] at ha1
    obtain ⟨n, hn1, rfl⟩ := Option.map_eq_some_iff.mp ha1
    obtain ⟨t, rfl⟩ := ha2
    have a3 : At X { σ with H := H₁ } s₃.heap := ag.keepBut (fun b o hb e => hk b o hb (hk₁ b o e)) hwrL hwr0 hwd
    refine helt n (List.mem_of_getElem? hn1) C s₃.heap m₃ t a3 hn hm s₃ _ _ rfl fun w tk' ⟨u, e⟩ => ⟨fun n' t' e' => ?_, s₃.heap, tk', rfl, fun _ _ e => e⟩
    cases e'
    exact ⟨u, e⟩
  · obtain ⟨n', hpl'⟩ := hpl
    have hkk : ∀ b o, b ∉ wr → g.get? b = some o → h'.get? b = some o := fun b o hb e => hk b o hb (hk₁ b o e)
    have a1 : At X { σ with H := H₁ } h' := ag.keepBut hkk hwrL hwr0 hwd
    have hDg : g.get? D = none := by
      cases q : g.get? D with
      | none => rfl
      | some o => rw [hk₁ _ _ q] at hD; cases hD
    have his : AllIs (il (xs.map f)) ys.toList := by
      refine paired_all (by rw [List.filter_eq_self.mpr (fun _ _ => rfl)] at hF; exact hF) xs (by rw [hvl, List.length_map]) fun j v e => ?_
      obtain ⟨q1, q2⟩ := hPs j v e
      obtain ⟨a, ha1, ha2⟩ := hP j v q1 q2
      rw [List.getElem?_map] at ha1
      obtain ⟨n, hn1, rfl⟩ := Option.map_eq_some_iff.mp ha1
      obtain ⟨t, rfl⟩ := ha2
      exact ⟨n, t, hn1, rfl⟩
    have hDL : D ≠ X.L := fun q => by obtain ⟨o, e⟩ := ag.live; rw [← q, hDg] at e; cases e
    have hD0 : X.h₀.get? D = none := by
      cases q : X.h₀.get? D with
      | none => rfl
      | some o => rw [ag.old q] at hDg; cases hDg
    have hDn : D ∉ H₁.map (·.1) := fun hm => by
      obtain ⟨p, hp, e2⟩ := List.mem_map.mp hm
      obtain ⟨o, h1, _⟩ := ag.hp p hp
      have e3 : p.1 = D := e2
      rw [e3, hDg] at h1
      cases h1
    have a2 : At X { σ with H := (D, .list (il (xs.map f))) :: H₁ } h' := by
      refine ⟨a1.fr, fun p hp => ?_, List.nodup_cons.mpr ⟨hDn, ag.nd⟩⟩
      rcases List.mem_cons.mp hp with rfl | hp
      · exact ⟨_, hpl', ⟨ys.toList, n', by simp, his⟩, hDL, hD0⟩
      · exact a1.hp p hp
    have z2 : Step X H₁ g ((D, .list (il (xs.map f))) :: H₁) h' := by
      refine ⟨fun b o e _ _ => hkk b o (fun hb => by rw [hwr b hb] at e; cases e) e, fun p hp => ?_⟩
      rcases List.mem_cons.mp hp with rfl | hp
      · exact .inr hDg
      · exact .inl (List.mem_map_of_mem hp)
    exact hQ _ (.val (.ref D)) h' tk _ a2 (zg.trans z2 a2) rfl (hR D hDn)
end
section
variable {G : GX} {X : FX} {σ : AS} {pos p : Pos}
/-- xs[k] op= e -/
theorem St.augItem {R : Fl → AS → Prop} {o i e : Expr} {op : Operator} {d : Addr} {vs : List AV} {a b c : Int} {k : Nat} {pre post : AH} {tpos : Pos} (ho : Ev G X σ o (.val (.ref d))) (hi : Ev G X σ i (.int (k : Int))) (hH : σ.H = pre ++ (d, .list vs) :: post) (hk : vs[k]? = some (.int a)) (hfit : k < 2 ^ 62) (he : Ev G X σ e (.int b))
    (h : ∀ (s : Shared) (Q E : Value → Shared → Prop) t u, Q (.int c s.toks) { s with toks := s.toks + 1 } → wpAny G.M X.A (inplaceOp op (.int a t) (.int b u)) Q E s)
    (hR : R .next { σ with H := pre ++ (d, .list (vs.set k (.int c))) :: post })
    (hs : ∀ ov iv new, augStore i ov iv new = (do holding [new, ov, iv] (PySem.setItem ov iv new); release [new, ov, iv] []; pure .next) := by intros; rfl) : St G X σ (.AugAssign (.Subscript o i tpos) op e pos) R := by
  intro s Q E ha hQ
  refine wpAny_AugAssign_SubscriptAny (ho s _ _ ha fun w tk e => ?_) hs
  cases e
  refine hi _ _ _ ha fun w tk' ⟨t, e⟩ => ?_
  subst e
  obtain ⟨ws, n, il, his⟩ := ha.isL (d := d) (vs := vs) (by rw [hH]; simp)
  obtain ⟨w, hw, ⟨t2, e2⟩⟩ := his.get hk
  subst e2
  have hkl : k < vs.length := by
    rcases Nat.lt_or_ge k vs.length with q | q
    · exact q
    · rw [List.getElem?_eq_none q] at hk; cases hk
  refine wpAny_getItem_list (s := { s with toks := tk' }) (l := d) (items := ws.toArray) ⟨_, il, rfl, n, rfl⟩ (by omega) (by omega) (by simpa using hw) ?_
  refine he _ _ _ ha fun w tk₂ ⟨u, e⟩ => ?_
  subst e
  refine h _ _ _ _ _ ?_
  refine ki_setAt (s := { s with toks := tk₂ + 1 }) il (by omega) (by omega) (by simp [his.length]; omega) ?_
  have e2 : (Obj.mapSeq (·.setIfInBounds ((k : Int)).toNat (.int c tk₂)) ({ cls := .type "list", dict := none, data := .seq ws.toArray n, slots := #[] } : Obj)) = { cls := .type "list", data := .seq (ws.set k (.int c tk₂)).toArray n } := by
    simp [Obj.mapSeq]
  have g : (s.heap.update d (Obj.mapSeq (·.setIfInBounds ((k : Int)).toNat (.int c tk₂)))).get? d = some { cls := .type "list", data := .seq (ws.set k (.int c tk₂)).toArray n } := by
    rw [← e2]
    exact Heap.get?_update_self _ il (by rw [e2]; rfl)
  have a₂ := ha.upd hH (Heap.SameBut.update ..) g (ao' := .list (vs.set k (.int c))) ⟨_, n, rfl, his.set k ⟨_, rfl⟩⟩
  exact hQ .next .next _ (tk₂ + 1) _ a₂ (hH ▸ .upd (Heap.SameBut.update ..)) rfl hR
/-- sum of ints -/
theorem sum_ints {A : Around} {prog : Program} {w : World} {E : Value → Shared → Prop} {s : Shared} {l : Addr} {vs : List Value} {ns : List Int} {Q : Value → Shared → Prop} (hh : A.handled = none) (hl : s.heap.IsList l vs.toArray) (hi : IntsAre vs ns)
    (h : ∀ h' tk t', (∀ b o, s.heap.get? b = some o → h'.get? b = some o) → Q (.int ns.sum t') { s with heap := h', toks := tk }) : wpAny (model prog w) A (call (.builtin "sum") [.ref l]) Q E s := by
  obtain ⟨xs, hxs⟩ := hi.allInts.items
  rw [hxs] at hl
  refine sum_intListG hh hl fun h' tk t' hk => ?_
  have e : numsOf vs.toArray.toList = ns := by rw [show vs.toArray.toList = vs from rfl, hi.numsOf]
  rw [hxs, nums_intItems] at e
  have := h h' tk t' hk
  rw [preSum_eq, List.take_of_length_le (by simp), e]
  exact this
theorem Ex.sum {R : AV → AH → Prop} {f : Str} {o : Expr} {a : Addr} {ns : List Int} (hf : Ev G X σ (.Name f p) (.val (.builtin "sum"))) (ho : Ev G X σ o (.val (.ref a))) (hl : LAt X σ.H a (il ns)) (hR : R (.int ns.sum) σ.H) (he : starEach [o] X.env = [(false, eval o X.env)] := by rfl) : Ex G X σ (.Call (.Name f p) [o] [] pos) R := by
  intro s Q E ha hQ
  refine wpAny_Call_NameR (hf s _ _ ha fun w tk i => ?_)
  cases i
  refine callWith_builtin1 (wpAny_items_cons (ho _ _ _ ha fun w tk' i => wpAny_items_nil ?_) he) he rfl
  cases i
  obtain ⟨ws, il1, hi⟩ := hl.isList ha
  refine sum_ints rfl il1 hi.intsAre fun h' tk t' hk => ?_
  exact hQ _ (.int ns.sum) h' tk _ (ha.keep hk) (.keep hk) ⟨t', rfl⟩ hR
end
end Mine
namespace Mine
open PySem PySem.W PyProof.Rows PySem.Spec PySem.Calls
open PySem.Builtin.Int (intBits)
theorem nolen_lri : typeLookup (.type "list_reverseiterator") "__len__" = pure none := by rw [typeLookup_type, builtinLookup_eq_fast]; kernel_rfl
theorem hint_lri : typeLookup (.type "list_reverseiterator") "__length_hint__" = pure (some (.builtin "list_reverseiterator.__length_hint__")) := by rw [typeLookup_type, builtinLookup_eq_fast]; kernel_rfl
section
variable {prog : Program} {w : World} {A : Around} {E : Value → Shared → Prop} {s : Shared}
theorem extend_rev {R : Result → Shared → Prop} {it l : Addr} {items : Array Value} (hh : A.handled = none) (hit : s.heap.IsRevIter it l ((items.size : Int) - 1)) (hl : s.heap.IsList l items) (hne : l ≠ it) (S : Addr) (hSi : S ≠ it) (hSl : S ≠ l) (res : Value) (c₀ : Nat)
    (hS : s.heap.get? S = some { cls := .type "list", data := .seq #[] c₀ })
    (hR : ∀ h' tk acc' c', (∀ b o, b ≠ S → b ≠ it → s.heap.get? b = some o → h'.get? b = some o) → h'.get? S = some { cls := .type "list", dict := none, data := .seq acc' c', slots := #[] } → ItemsOf (fun i v => items[items.size - 1 - i]? = some v) acc' items.size → R (.ok (.ret res)) { s with heap := h', toks := tk }) (hn : items.size ≤ sizeLine) :
    wpAny (model prog w) A.in1 (Builtin.List.listExtendWith (.ref S) (.ref it) res)
      (fun fin s' => match fin with | .done f => R (.ok f) s' | .again c' => c'.quiet = true ∧ codeAny (model prog w) A c' R s') (fun e s' => R (.error e) s') s := by
  have W := Walks.listRev (prog := prog) (w := w) (A := A.in1) hh it l hne items
  have st : 0 ≤ items.size ∧ s.heap.IsRevIter it l ((items.size : Int) - 1 - ((0 : Nat) : Int)) ∧ s.heap.IsList l items := ⟨Nat.zero_le _, by simpa using hit, hl⟩
  have h1 : Builtin.List.listSameRef (.ref S) (.ref it) = false := by simp [Builtin.List.listSameRef, hSi]
  unfold Builtin.List.listExtendWith
  refine wpAny_bind (wpAny_typeOf (T := "list_reverseiterator") hit.typeIs ?_)
  rw [if_neg (by rw [h1]; decide)]
  refine wpAny_bind (wpAny_pyIter_revIter hit ?_)
  refine wpAny_bind (wpAny_holding ?_)
  unfold Builtin.List.listLengthHint
  refine wpAny_bind (wpAny_specialOf hit.typeIs nolen_lri ?_)
  show wpAny _ A.in1 (specialOf (Value.ref it) (Str.ofString "__length_hint__") >>= _) _ _ _
  refine wpAny_bind (wpAny_specialOf hit.typeIs hint_lri ?_)
  generalize hid : ("list_reverseiterator.__length_hint__" : String) = id0
  wp_delta
  rw [show splitId id0 = some ("list_reverseiterator", "__length_hint__") from by subst hid; decide +kernel]
  subst hid
  refine wpAny_bind (wpAny_isInstance (b := true) hit.typeIs (by rw [isSubtype_type]; kernel_rfl) ?_)
  refine wpAny_pure ?_
  rw [if_neg (by decide)]
  refine wpAny_pure ⟨plainId_quiet PySem.F.plain_extend_loop _, codeAny_extend_loopS W.toS hn S (by simp [hSi, hSl]) res items.size 0 _ #[] c₀ rfl (Nat.zero_le _) st hS (ItemsOf.nil _) fun s' acc' c' hm hS' hacc => ?_⟩
  rw [Moved.eq_with hm]
  refine hR s'.heap s'.toks acc' c' (fun b o hb hb2 e => hm.heap b o (fun hmem => ?_) e) hS' hacc
  rcases List.mem_cons.mp hmem with e' | hmem
  · exact hb e'
  · exact hb2 (List.mem_singleton.mp hmem)
theorem call_list_revIter {it l : Addr} {items : Array Value} {Q : Value → Shared → Prop} (hh : A.handled = none) (hit : s.heap.IsRevIter it l ((items.size : Int) - 1)) (hl : s.heap.IsList l items) (hne : l ≠ it) (hn : items.size ≤ sizeLine)
    (hQ : ∀ h' tk acc' c', (∀ b o, b ≠ it → s.heap.get? b = some o → h'.get? b = some o) → h'.get? s.heap.objs.size = some { cls := .type "list", dict := none, data := .seq acc' c', slots := #[] } → ItemsOf (fun i v => items[items.size - 1 - i]? = some v) acc' items.size → Q (.ref s.heap.objs.size) { s with heap := h', toks := tk }) :
    wpAny (model prog w) A (call (.type "list") [.ref it]) Q E s := by
  refine callType_codes (Q₁ := fun obj s₁ => obj = .ref s.heap.objs.size ∧ s₁ = { s with heap := s.heap.push { cls := .type "list", data := .seq #[] } }) PySem.F.called_list (PySem.F.typeCall_list_1 _) PySem.F.entry_list_init
    (code_list_new _ ⟨rfl, rfl⟩) fun obj s₁ h₁ => ?_
  obtain ⟨rfl, rfl⟩ := h₁
  have hS : (s.heap.push { cls := .type "list", data := .seq #[] }).get? s.heap.objs.size = some { cls := .type "list", data := .seq #[] } := Heap.get?_push_size _ rfl
  have lt1 : it < s.heap.objs.size := by obtain ⟨o, e, _⟩ := hit; exact Heap.lt_size e
  have lt2 : l < s.heap.objs.size := by obtain ⟨o, e, _⟩ := hl; exact Heap.lt_size e
  refine ⟨⟨_, hS, rfl⟩, PySem.F.args_list_init_2 _ _, ?_⟩
  show wpAny _ _ (do let old ← Builtin.List.listItems (.ref s.heap.objs.size); Builtin.List.listUpdate (.ref s.heap.objs.size) (fun _ => #[]); letGo old.toList.reverse; Builtin.List.listExtendWith (.ref s.heap.objs.size) (.ref it) .none) _ _ _
  refine wpAny_bind ?_
  unfold Builtin.List.listItems
  refine wpAny_bind (wpAny_seqItems hS rfl (wpAny_pure ?_))
  show wpAny _ _ (updateSeq s.heap.objs.size (fun _ => #[]) >>= fun _ => letGo (#[] : Array Value).toList.reverse >>= fun _ => Builtin.List.listExtendWith (.ref s.heap.objs.size) (.ref it) .none) _ _ _
  refine wpAny_bind (wpAny_updateSeq hS rfl ?_)
  have hS₂ := Heap.get?_update_self (Obj.mapSeq (fun _ => (#[] : Array Value))) hS rfl
  have oth : ∀ b o, s.heap.get? b = some o → ((s.heap.push { cls := .type "list", data := .seq #[] }).update s.heap.objs.size (Obj.mapSeq (fun _ => (#[] : Array Value)))).get? b = some o :=
    fun b o e => (Heap.get?_update_other _ _ (Nat.ne_of_gt (Heap.lt_size e))).trans (Heap.get?_push_of_some _ e)
  refine wpAny_bind (wpAny_letGo ?_)
  refine extend_rev (A := A.in1) (items := items) hh (hit.at fun o e => oth _ o e) (hl.at fun o e => oth _ o e) hne _ (Nat.ne_of_gt lt1) (Nat.ne_of_gt lt2) .none _ hS₂ (fun h' tk acc' c' hk hS' hacc => ?_) hn
  exact ⟨rfl, hQ h' tk acc' c' (fun b o hb e => hk b o (Nat.ne_of_lt (Heap.lt_size e)) hb (oth b o e)) hS' hacc⟩
end
section
variable {G : GX} {X : FX} {σ : AS} {pos p p' pos' : Pos}
theorem itemsOf_rev {vs : List AV} {ws : List Value} {acc : Array Value} (hi : AllIs vs ws) (h : ItemsOf (fun i v => ws.toArray[ws.toArray.size - 1 - i]? = some v) acc ws.toArray.size) : AllIs vs.reverse acc.toList := by
  have : acc.toList = ws.reverse := by
    refine List.ext_getElem? fun j => ?_
    have h1 : acc.toList.length = ws.length := by simpa using h.1
    rcases Nat.lt_or_ge j ws.length with q | q
    · have e : acc[j]? = some (acc[j]'(by have := h.1; simp at this; omega)) := Array.getElem?_eq_getElem _
      have h2 := h.2 j _ e
      rw [List.getElem?_reverse q, Array.getElem?_toList, e, ← h2]
      simp
    · rw [List.getElem?_eq_none (by omega), List.getElem?_eq_none (by simpa using q)]
  rw [this]
  exact hi.reverse
/-- list(reversed(xs)) -/
theorem Ex.listRev {R : AV → AH → Prop} {f g : Str} {o : Expr} {a : Addr} {vs : List AV} (hf : Ev G X σ (.Name f p) (.val (.type "list"))) (hg : Ev G X σ (.Name g p') (.val (.type "reversed"))) (ho : Ev G X σ o (.val (.ref a))) (hl : LAt X σ.H a vs) (hsz : vs.length ≤ 2 ^ 20) (hR : ∀ d, d ∉ σ.H.map (·.1) → R (.val (.ref d)) ((d, .list vs.reverse) :: σ.H))
    (he : starEach [o] X.env = [(false, eval o X.env)] := by rfl) (he2 : starEach [Expr.Call (.Name g p') [o] [] pos'] X.env = [(false, eval (Expr.Call (.Name g p') [o] [] pos') X.env)] := by rfl) : Ex G X σ (.Call (.Name f p) [.Call (.Name g p') [o] [] pos'] [] pos) R := by
  intro s Q E ha hQ
  refine wpAny_Call_NameR (hf s _ _ ha fun w tk i => ?_)
  cases i
  refine PyProof.Rows.callWith_type1 (wpAny_items_cons (wpAny_Call_NameR (hg _ _ _ ha fun w tk₂ i => ?_)) he2) he2 rfl
  cases i
  refine PyProof.Rows.callWith_type1 (wpAny_items_cons (ho _ _ _ ha fun w tk₃ i => wpAny_items_nil ?_) he) he rfl
  cases i
  obtain ⟨ws, il, hi⟩ := hl.isList ha
  obtain ⟨oa, ea⟩ := hl.live ha
  refine call_reversed_list il (wpAny_items_nil ?_)
  have hne : a ≠ s.heap.objs.size := Nat.ne_of_lt (Heap.lt_size ea)
  have hrev : (s.heap.push (revObj a ((ws.toArray.size : Int) - 1))).IsRevIter s.heap.objs.size a ((ws.toArray.size : Int) - 1) := ⟨_, Heap.get?_push_size _ rfl, rfl, rfl⟩
  have k1 : ∀ b o, s.heap.get? b = some o → (s.heap.push (revObj a ((ws.toArray.size : Int) - 1))).get? b = some o := fun _ _ e => Heap.get?_push_of_some _ e
  refine call_list_revIter rfl hrev (il.at fun o e => k1 _ o e) hne (by simp [hi.length, sizeLine]; omega) fun h' tk acc c hk hD hacc => ?_
  have hkk : ∀ b o, s.heap.get? b = some o → h'.get? b = some o := fun b o e => hk b o (Nat.ne_of_lt (Heap.lt_size e)) (k1 b o e)
  have hd : s.heap.get? (s.heap.push (revObj a ((ws.toArray.size : Int) - 1))).objs.size = none := Heap.get?_none_of_le (by simp [Heap.size_push])
  have a₂ := ha.new (ao := .list vs.reverse) hkk hd hD ⟨acc.toList, c, by simp, itemsOf_rev hi hacc⟩
  exact hQ _ (.val (.ref _)) h' tk _ a₂ (.new hkk hd) rfl (hR _ (List.nodup_cons.mp a₂.nd).1)
end
section
variable {G : GX} {X : FX} {σ : AS} {R : Fl → AS → Prop} {pos px py spos p : Pos} {elt iter : Expr} {x y : Str} {scope : Scope} {cl : List (Str × Addr)}
/-- a name bound to a comprehension over ints -/
theorem St.compI {R₁ : AH → List AV → Option Addr → Prop} (f : Int → Int) (ok : X.Ok G) (hsw : swapsWith (.ListComp elt [⟨.Name x px, iter, [], 0⟩] scope pos) (some (.Name y py)) spos.line X.env = pure true)
    (hclos : closureFor scope X.env = pure cl) (hcell : ∀ y ∈ scope.names, y.2 ≠ .cell) (hkind : scope.kind = .function)
    (hnames : ∀ y ∈ scope.names, y.2 = .local → scope.names.lookup y.1 = some .local) (hx : scope.names.lookup x = some .local) (hy : X.cs.names.lookup y = some .local) (src : SrcX G X σ iter R₁)
    (go : ∀ H₁ items lk, R₁ H₁ items lk → ∃ xs : List Int, items = il xs ∧ xs.length ≤ 2 ^ 20 ∧
      (∀ n ∈ xs, ∀ C h m t, At X { σ with H := H₁ } h → h.Ns C m → m x = some (.int n t) → EvE G X.A (compEnvC scope cl C X.env) h elt (.int (f n))) ∧
      ∀ d, d ∉ H₁.map (·.1) → R .next (AS.set ⟨σ.m, (d, .list (il (xs.map f))) :: H₁⟩ y (.val (.ref d))))
    (hs : ∀ x, foldedSetIterable iter X.env x = pure x := by intro _; rfl) : St G X σ (.Assign [.Name y py] (.ListComp elt [⟨.Name x px, iter, [], 0⟩] scope pos) spos) R := by
  intro s Q E ha hQ
  refine wpAny_Assign_ListComp_free (p := fun _ => true) (F := fun v y => ∀ n t, v = .int n t → ∃ u, y = .int (f n) u) hsw hclos hcell hkind hnames hx hy (by
      show (X.cs.kind == .class || (X.cs.kind == .module && X.L != mainGlobals)) = false
      rw [ok.fn]; rfl) (src s _ _ ha fun g H₁ items lk ag zg hg I fp wr P Stt h₁ tk₁ W st0 hP hfp hwr hlive hk₁ => ?_) hs
  obtain ⟨xs, rfl, hlen, helt, hR⟩ := go H₁ items lk hg
  have W' : Walks G.prog G.w X.A I fp wr (il xs).length (fun i v => i < (il xs).length ∧ P i v) Stt :=
    { sub := W.sub, frame := W.frame, item := fun i s Q E hi st hQ => W.item i s Q E hi st fun v h' tk hp => hQ v h' tk ⟨hi, hp⟩, done := W.done, self := W.self }
  have hwrL : X.L ∉ wr := fun hm => by obtain ⟨o, e⟩ := ag.live; rw [hwr _ hm] at e; cases e
  have hwr0 : ∀ b ∈ wr, X.h₀.get? b = none := fun b hb => by
    cases q : X.h₀.get? b with
    | none => rfl
    | some o => have := hwr b hb; rw [ag.old q] at this; cases this
  have hwd : ∀ b ∈ wr, b ∉ H₁.map (·.1) := by
    intro b hb hm
    obtain ⟨p, hp, e2⟩ := List.mem_map.mp hm
    obtain ⟨o, h1, _⟩ := ag.hp p hp
    have e3 : p.1 = b := e2
    rw [e3, hwr b hb] at h1
    cases h1
  obtain ⟨m, F, hm⟩ := (ag.keep hk₁).fr
  refine ⟨I, fp, wr, _, _, Stt, m, rfl, W', by rw [List.length_map]; unfold sizeLine; omega, st0, At.fpLive (hlive 0 h₁ st0), hwrL, F.ns, ⟨fun C i v s₃ m₃ E' hC hPv hn hm hk htk => ?_, fun C i v s₃ m₃ E' hC hPv _ hn hm hk htk => ?_⟩, fun D h' tk ys vs hD hl hpl hvl hPs hF hns hk => ?_⟩
  · exact wpAny_pure ⟨rfl, s₃.heap, s₃.toks, rfl, fun _ _ e => e⟩
  · obtain ⟨a, ha1, ha2⟩ := hP i v hPv.1 hPv.2
    rw [List.getElem?_map] at ha1
    obtain ⟨n, hn1, rfl⟩ := Option.map_eq_some_iff.mp ha1
    obtain ⟨t, rfl⟩ := ha2
    have a3 : At X { σ with H := H₁ } s₃.heap := ag.keepBut (fun b o hb e => hk b o hb (hk₁ b o e)) hwrL hwr0 hwd
    refine helt n (List.mem_of_getElem? hn1) C s₃.heap m₃ t a3 hn hm s₃ _ _ rfl fun w tk' ⟨u, e⟩ => ⟨fun n' t' e' => ?_, s₃.heap, tk', rfl, fun _ _ e => e⟩
    cases e'
    exact ⟨u, e⟩
  · obtain ⟨n', hpl'⟩ := hpl
    have hDg : g.get? D = none := by
      cases q : g.get? D with
      | none => rfl
      | some o => rw [hk₁ _ _ q] at hD; cases hD
    have hkk : ∀ b o, b ≠ X.L → b ∉ wr → g.get? b = some o → h'.get? b = some o := fun b o hb hb2 e => hk b o hb hb2 (hk₁ b o e)
    have his : AllIs (il (xs.map f)) ys.toList := by
      refine paired_all (by rw [List.filter_eq_self.mpr (fun _ _ => rfl)] at hF; exact hF) xs (by rw [hvl, List.length_map]) fun j v e => ?_
      obtain ⟨q1, q2⟩ := hPs j v e
      obtain ⟨a, ha1, ha2⟩ := hP j v q1 q2
      rw [List.getElem?_map] at ha1
      obtain ⟨n, hn1, rfl⟩ := Option.map_eq_some_iff.mp ha1
      obtain ⟨t, rfl⟩ := ha2
      exact ⟨n, t, hn1, rfl⟩
    have hDL : D ≠ X.L := fun q => by obtain ⟨o, e⟩ := ag.live; rw [← q, hDg] at e; cases e
    have hD0 : X.h₀.get? D = none := by
      cases q : X.h₀.get? D with
      | none => rfl
      | some o => rw [ag.old q] at hDg; cases hDg
    have hDn : D ∉ H₁.map (·.1) := fun hm => by
      obtain ⟨p, hp, e2⟩ := List.mem_map.mp hm
      obtain ⟨o, h1, _⟩ := ag.hp p hp
      have e3 : p.1 = D := e2
      rw [e3, hDg] at h1
      cases h1
    have old0 : ∀ b o, X.h₀.get? b = some o → b ≠ X.L := fun b o e q => absurd (Nat.lt_of_lt_of_le (Heap.lt_size e) (q ▸ F.above)) (Nat.lt_irrefl _)
    have a2 : At X (AS.set ⟨σ.m, (D, .list (il (xs.map f))) :: H₁⟩ y (.val (.ref D))) h' := by
      refine ⟨⟨_, ⟨hns, fun b o e => hkk b o (old0 b o e) (fun hb => by rw [hwr0 b hb] at e; cases e) (ag.old e), F.above⟩, fun z u e => ?_⟩, fun p hp => ?_, List.nodup_cons.mpr ⟨hDn, ag.nd⟩⟩
      · unfold AS.set at e
        simp only [List.lookup_cons] at e
        cases hb : z == y with
        | true => rw [hb] at e; cases e; rw [if_pos (eq_of_beq hb)]; exact ⟨_, rfl, rfl⟩
        | false => rw [hb] at e; rw [if_neg (fun q => by rw [q] at hb; simp at hb)]; exact hm z u e
      · rcases List.mem_cons.mp hp with rfl | hp
        · exact ⟨_, hpl', ⟨ys.toList, n', by simp, his⟩, hDL, hD0⟩
        · obtain ⟨o, e1, e2, e3, e4⟩ := ag.hp p hp
          exact ⟨o, hkk _ _ e3 (fun hb => hwd _ hb (List.mem_map_of_mem hp)) e1, e2, e3, e4⟩
    have z2 : Step X H₁ g ((D, .list (il (xs.map f))) :: H₁) h' := by
      refine ⟨fun b o e hb _ => hkk b o hb (fun hb => by rw [hwr b hb] at e; cases e) e, fun p hp => ?_⟩
      rcases List.mem_cons.mp hp with rfl | hp
      · exact .inr hDg
      · exact .inl (List.mem_map_of_mem hp)
    exact hQ .next .next h' tk _ a2 (zg.trans z2 a2) rfl (hR D hDn)
end
end Mine
namespace Mine
open PySem PySem.W PyProof.Rows PySem.Spec PySem.Calls
open PySem.Builtin.Int (intBits)
section
variable {G : GX} {X : FX} {σ : AS} {R : AV → AH → Prop} {pos p : Pos} {l r o e i : Expr} {vs : List AV}
theorem TsX.bool {R₁ : AV → AH → Prop} {R' : Bool → AH → Prop} (h : Ex G X σ e R₁) (k : ∀ v H, R₁ v H → ∃ b, v = .val (.bool b) ∧ R' b H) (he : ∀ whole, isTrue e X.env whole = (do let v ← whole; standAt e.pos; holding [v] (truthy v)) := by intro _; rfl) : TsX G X σ e R' := by
  intro s Q E ha hQ
  refine wpAny_isTrue_value (h s _ _ ha fun w v h' tk H' a z i r => ?_) (he _)
  obtain ⟨b, rfl, r'⟩ := k v H' r
  cases i
  exact wpAny_truthy_bool (hQ b h' tk H' a z r')
theorem TsX.not {R' R'' : Bool → AH → Prop} (h : TsX G X σ e R') (k : ∀ b H, R' b H → R'' (!b) H) : TsX G X σ (.UnaryOp .Not e pos) R'' := by
  intro s Q E ha hQ
  exact wpAny_isTrue_Not (h s _ _ ha fun b h' tk H' a z r => hQ (!b) h' tk H' a z (k b H' r))
/-- an item from the end of a list that a call handed over -/
theorem Ex.itemNegX {k : Nat} {R₁ : AV → AH → Prop} (ho : Ex G X σ o R₁) (hi : ∀ τ : AH, Ev G X { σ with H := τ } i (.int (-(k : Int))))
    (hR : ∀ v H, R₁ v H → ∃ a us u, v = .val (.ref a) ∧ LAt X H a us ∧ 0 < k ∧ k ≤ us.length ∧ us[us.length - k]? = some u ∧ R u H) (hfit : k < 2 ^ 62)
    (hs : ∀ a t, subscripted i false (.ref a) (.int (-(k : Int)) t) = operate [.ref a, .int (-(k : Int)) t] (getItem (.ref a) (.int (-(k : Int)) t)) := by intro _ _; with_unfolding_all rfl) : Ex G X σ (.Subscript o i pos) R := by
  intro s Q E ha hQ
  refine Subscript_ (ho s _ _ ha fun w v h' tk H' a' z e r => ?_)
  obtain ⟨d, us, u, rfl, hl, h0, hle, hu, hr⟩ := hR v H' r
  cases e
  refine hi H' _ _ _ a' fun w tk' ⟨t, e⟩ => ?_
  subst e
  obtain ⟨ws, il, his⟩ := hl.isList (σ := { σ with H := H' }) a'
  obtain ⟨w, hw, hi'⟩ := his.get hu
  have hsz : ws.toArray.size = us.length := by simp [his.length]
  refine tail_any (s := { s with heap := h', toks := tk' }) (Heap.IsList.typeIs (s := { s with heap := h', toks := tk' }) il) slot_list_getitem.lookup (wpAny_getItem_list_neg il (by omega) (by rw [hsz]; omega) (by omega) ?_ (hQ w u _ _ H' a' z hi' hr)) (hs d t)
  rw [hsz, show (-(k : Int) + (us.length : Int)).toNat = us.length - k from by omega]
  simpa using hw
theorem ExI.min2 {f : Str} {a b : Int} (hf : Ev G X σ (.Name f p) (.val (.builtin "min"))) (hl : Ev G X σ l (.int a)) (hr : Ev G X σ r (.int b)) (he : starEach [l, r] X.env = (false, eval l X.env) :: starEach [r] X.env := by rfl) (he2 : starEach [r] X.env = [(false, eval r X.env)] := by rfl) (hpl : (backTo pos (starEach [r] X.env)).any (·.1) = false := by rfl) : ExI G X σ (.Call (.Name f p) [l, r] [] pos) (min a b) := by
  intro s Q E ha hQ
  refine wpAny_Call_NameR (hf s _ _ ha fun w tk i => ?_)
  cases i
  refine callWith_builtin1 (wpAny_items_cons (hl _ _ _ ha fun w tk' ⟨t, e⟩ => wpAny_items_cons (hr _ _ _ ha fun w₂ tk₂ ⟨u, e₂⟩ => wpAny_items_nil ?_) he2) he) he hpl
  subst e e₂
  refine min_two_ints rfl fun h' tk hk => ?_
  have hm : (AV.int (min a b)).Is (if b < a then Value.int b u else Value.int a t) := by
    by_cases c : b < a
    · rw [if_pos c]; exact ⟨u, by rw [show min a b = b from by omega]⟩
    · rw [if_neg c]; exact ⟨t, by rw [show min a b = a from by omega]⟩
  exact hQ _ _ h' tk _ (ha.keep hk) (.keep hk) hm ⟨rfl, rfl⟩
theorem ExI.max2 {f : Str} {a b : Int} (hf : Ev G X σ (.Name f p) (.val (.builtin "max"))) (hl : Ev G X σ l (.int a)) (hr : Ev G X σ r (.int b)) (he : starEach [l, r] X.env = (false, eval l X.env) :: starEach [r] X.env := by rfl) (he2 : starEach [r] X.env = [(false, eval r X.env)] := by rfl) (hpl : (backTo pos (starEach [r] X.env)).any (·.1) = false := by rfl) : ExI G X σ (.Call (.Name f p) [l, r] [] pos) (max a b) := by
  intro s Q E ha hQ
  refine wpAny_Call_NameR (hf s _ _ ha fun w tk i => ?_)
  cases i
  refine callWith_builtin1 (wpAny_items_cons (hl _ _ _ ha fun w tk' ⟨t, e⟩ => wpAny_items_cons (hr _ _ _ ha fun w₂ tk₂ ⟨u, e₂⟩ => wpAny_items_nil ?_) he2) he) he hpl
  subst e e₂
  refine max_two_ints rfl fun h' tk hk => ?_
  have hm : (AV.int (max a b)).Is (if b > a then Value.int b u else Value.int a t) := by
    by_cases c : b > a
    · rw [if_pos c]; exact ⟨u, by rw [show max a b = b from by omega]⟩
    · rw [if_neg c]; exact ⟨t, by rw [show max a b = a from by omega]⟩
  exact hQ _ _ h' tk _ (ha.keep hk) (.keep hk) hm ⟨rfl, rfl⟩
/-- an item is stored, of what a call hands over -/
theorem St.setItemX {R : Fl → AS → Prop} {o i value : Expr} {d : Addr} {v : AV} {k : Nat} {pre post : AH} {pos' : Pos} (hv : Ex G X σ value fun u H => u = v ∧ H = σ.H) (ho : Ev G X σ o (.val (.ref d))) (hi : Ev G X σ i (.int (k : Int))) (hH : σ.H = pre ++ (d, .list vs) :: post) (hk : k < vs.length) (hfit : k < 2 ^ 62)
    (hR : R .next { σ with H := pre ++ (d, .list (vs.set k v)) :: post }) (hs : swapsWith value (some (.Subscript o i pos')) pos.line X.env = pure false := by rfl) : St G X σ (.Assign [.Subscript o i pos'] value pos) R := by
  intro s Q E ha hQ
  refine wpAny_Assign_Subscript (hv s _ _ ha fun w u h' tk H' a z iw ⟨e1, e2⟩ => ?_) hs
  subst e1 e2
  refine ho _ _ _ a fun w₂ tk₂ e => ?_
  cases e
  refine hi _ _ _ a fun w₃ tk₃ ⟨t, e⟩ => ?_
  subst e
  obtain ⟨ws, n, il, his⟩ := a.isL (σ := σ) (d := d) (vs := vs) (by rw [hH]; simp)
  refine ki_setAt (s := { s with heap := h', toks := tk₃ }) il (by omega) (by omega) (by simp [his.length]; omega) ?_
  have e2 : (Obj.mapSeq (·.setIfInBounds ((k : Int)).toNat w) ({ cls := .type "list", dict := none, data := .seq ws.toArray n, slots := #[] } : Obj)) = { cls := .type "list", data := .seq (ws.set k w).toArray n } := by
    simp [Obj.mapSeq]
  have g : (h'.update d (Obj.mapSeq (·.setIfInBounds ((k : Int)).toNat w))).get? d = some { cls := .type "list", data := .seq (ws.set k w).toArray n } := by
    rw [← e2]
    exact Heap.get?_update_self _ il (by rw [e2]; rfl)
  have a₂ := At.upd (σ := σ) a hH (Heap.SameBut.update ..) g (ao' := .list (vs.set k u)) ⟨_, n, rfl, his.set k iw⟩
  exact hQ .next .next _ tk₃ _ a₂ (z.trans (hH ▸ .upd (Heap.SameBut.update ..)) a₂) rfl hR
end
end Mine
namespace Mine
open PySem PySem.W PyProof.Rows PySem.Spec PySem.Calls
open PySem.Builtin.Int (intBits)
section
variable {G : GX} {X : FX} {σ : AS} {pos p : Pos} {l r o e f i : Expr} {vs : List AV} {v : AV}
theorem Tst.toX {b : Bool} {R : Bool → AH → Prop} (h : Tst G X σ e b) (hR : R b σ.H) : TsX G X σ e R :=
  fun s Q E ha hQ => h s _ _ ha fun tk => hQ b s.heap tk σ.H ha .refl hR
theorem TsX.andX {R₁ R : Bool → AH → Prop} (h : TsX G X σ e R₁) (k : ∀ H, R₁ true H → TsX G X { σ with H := H } f R) (hf : ∀ H, R₁ false H → R false H) : TsX G X σ (.BoolOp .And [e, f] pos) R := by
  intro s Q E ha hQ
  refine wpAny_isTrue_BoolOp (wpAny_allTrue_And_cons (h s _ _ ha fun b h' tk H' a z r => ?_))
  cases b with
  | false => rw [if_neg (by decide)]; exact hQ false h' tk H' a z (hf _ r)
  | true =>
    rw [if_pos rfl]
    refine wpAny_allTrue_And_cons (k _ r _ _ _ a fun b h'' tk' H'' a' z' r' => ?_)
    have z2 := z.trans z' a'
    cases b with
    | false => rw [if_neg (by decide)]; exact hQ false h'' tk' H'' a' z2 r'
    | true => rw [if_pos rfl]; exact wpAny_allTrue_And_nil (hQ true h'' tk' H'' a' z2 r')
/-- while, its test makes objects -/
theorem St.whileX {R : Fl → AS → Prop} {test : Expr} {body : List Stmt} (I : Nat → AS → Prop)
    (turn : ∀ n τ, I n τ → ∃ m H, (∀ x v, m.lookup x = some v → τ.m.lookup x = some v) ∧ Sub H τ.H ∧ ∃ R' : Bool → AH → Prop, TsX G X ⟨m, H⟩ test R' ∧
      (∀ H', R' true H' → Ss G X ⟨m, H'⟩ body fun f τ' => match f with | .next | .cont => ∃ k, k < n ∧ I k τ' | .brk => R .next τ' | .ret v => R (.ret v) τ') ∧ (∀ H', R' false H' → R .next ⟨m, H'⟩))
    (n : Nat) (h0 : I n σ) : St G X σ (.While test body [] pos) R := by
  intro s Q E ha hQ
  refine wpAny_While (codeAny_whileLoop (fun n s' => ∃ h' tk τ, s' = { s with heap := h', toks := tk } ∧ At X τ h' ∧ Step X σ.H s.heap τ.H h' ∧ I n τ) ?_ n ⟨s.heap, s.toks, σ, rfl, ha, .refl, h0⟩)
  rintro n s' ⟨h', tk, τ, rfl, a, z, i⟩
  obtain ⟨m, H, hm, hH, R', ht, h1, h2⟩ := turn n τ i
  have a₀ : At X ⟨m, H⟩ h' := a.sub hm hH
  have z₀ : Step X σ.H s.heap H h' := z.sub hH.mem
  refine ht _ _ _ a₀ fun c h₁ tk₁ H₁ a₁ z₁ rr => ?_
  have z₁' : Step X σ.H s.heap H₁ h₁ := z₀.trans z₁ a₁
  cases c with
  | false => rw [if_neg (by decide)]; exact wpAny_execs_nil (hQ .next .next h₁ tk₁ _ a₁ z₁' rfl (h2 _ rr))
  | true =>
    rw [if_pos rfl]
    refine h1 _ rr _ _ _ a₁ fun f fl h'' tk'' τ' a' z' b' c' => ?_
    have z'' := z₁'.trans z' a'
    cases f with
    | next => cases b'; obtain ⟨k, hk, ik⟩ := c'; exact ⟨k, hk, h'', tk'', τ', rfl, a', z'', ik⟩
    | cont => cases b'; obtain ⟨k, hk, ik⟩ := c'; exact ⟨k, hk, h'', tk'', τ', rfl, a', z'', ik⟩
    | brk => cases b'; exact hQ .next .next h'' tk'' τ' a' z'' rfl c'
    | ret v => obtain ⟨w, rfl, iw⟩ := b'; exact hQ (.ret v) (.ret w) h'' tk'' τ' a' z'' ⟨w, rfl, iw⟩ c'
/-- an item is stored, one of several targets -/
theorem Sns.item {R : AS → Prop} {ts : List (Value → Sem Unit)} {d : Addr} {us : List AV} {k : Nat} {pre post : AH} (ho : Ev G X σ o (.val (.ref d))) (hi : Ev G X σ i (.int (k : Int))) (hH : σ.H = pre ++ (d, .list us) :: post) (hk : k < us.length) (hfit : k < 2 ^ 62)
    (h : Sns G X { σ with H := pre ++ (d, .list (us.set k v)) :: post } ts vs R) : Sns G X σ (assign (.Subscript o i pos) X.env :: ts) (v :: vs) R := by
  intro s ws Q E ha his hQ
  match ws, his with
  | w :: ws, ⟨iw, is⟩ =>
    show wpAny G.M X.A (do holding ws (assign (.Subscript o i pos) X.env w); assignInOrder ts ws) Q E s
    refine wpAny_bind (wpAny_holding (kas_sub (ho s _ _ ha fun w₂ tk₂ e => ?_)))
    cases e
    refine hi _ _ _ ha fun w₃ tk₃ ⟨t, e⟩ => ?_
    subst e
    obtain ⟨ws', n, il, his'⟩ := ha.isL (d := d) (vs := us) (by rw [hH]; simp)
    refine ki_setAt il (by omega) (by omega) (by simp [his'.length]; omega) ?_
    have e2 : (Obj.mapSeq (·.setIfInBounds ((k : Int)).toNat w) ({ cls := .type "list", dict := none, data := .seq ws'.toArray n, slots := #[] } : Obj)) = { cls := .type "list", data := .seq (ws'.set k w).toArray n } := by
      simp [Obj.mapSeq]
    have g : (s.heap.update d (Obj.mapSeq (·.setIfInBounds ((k : Int)).toNat w))).get? d = some { cls := .type "list", data := .seq (ws'.set k w).toArray n } := by
      rw [← e2]
      exact Heap.get?_update_self _ il (by rw [e2]; rfl)
    have a₂ := ha.upd hH (Heap.SameBut.update ..) g (ao' := .list (us.set k v)) ⟨_, n, rfl, his'.set k iw⟩
    exact h _ _ _ _ a₂ is fun h'' tk' σ'' a' z' r => hQ h'' tk' σ'' a' (Step.trans (hH ▸ .upd (Heap.SameBut.update ..)) z' a') r
theorem reads_ints {h : Heap} {a : Addr} {ws : List Value} {x : List Int} (hl : h.IsList a ws.toArray) (hi : AllIs (il x) ws) : Reads h (.ref a) (.list (x.map PyData.int)) (a :: []) := by
  obtain ⟨o, ho, hc, n, hd⟩ := hl
  exact .list ho hc hd ((ke_carried hi.intsAre).reads h)
theorem shaped_tup2 (x y : List Int) : SeqAt.shaped (.tuple [.list (x.map PyData.int), .list (y.map PyData.int)]) = true := by
  simp [SeqAt.shaped, PyData.canLay0, PyData.canLayAll0, PyData.depth, PyData.depthAll, ke_canLayAll0, ke_depthAll]
/-- two pairs of lists that tell the same -/
theorem CmpS.tup2Ne {a c l1 l2 k1 k2 : Addr} {x y : List Int} (ha : (a, AO.tup [.val (.ref l1), .val (.ref l2)]) ∈ σ.H) (hc : (c, AO.tup [.val (.ref k1), .val (.ref k2)]) ∈ σ.H) (h1 : LAt X σ.H l1 (il x)) (h2 : LAt X σ.H l2 (il y)) (g1 : LAt X σ.H k1 (il x)) (g2 : LAt X σ.H k2 (il y)) (hu : X.un + 64 < cLine) :
    CmpS G X σ .NotEq (.val (.ref a)) (.val (.ref c)) false := by
  rintro s Q E _ _ hA rfl rfl hQ
  have rd : ∀ {b m1 m2 : Addr}, (b, AO.tup [.val (.ref m1), .val (.ref m2)]) ∈ σ.H → LAt X σ.H m1 (il x) → LAt X σ.H m2 (il y) → ∃ as, Reads s.heap (.ref b) (.tuple [.list (x.map PyData.int), .list (y.map PyData.int)]) as := by
    intro b m1 m2 hb q1 q2
    obtain ⟨ws, ⟨o, ho, hc, n, hd⟩, hi⟩ := hA.isTup hb
    match ws, hi with
    | [_, _], ⟨e1, e2, _⟩ =>
      cases e1; cases e2
      obtain ⟨us1, i1, j1⟩ := q1.isList hA
      obtain ⟨us2, i2, j2⟩ := q2.isList hA
      exact ⟨_, .tuple ho hc hd (.cons (reads_ints i1 j1) (.cons (reads_ints i2 j2) .nil))⟩
  obtain ⟨_, r1⟩ := rd ha h1 h2
  obtain ⟨_, r2⟩ := rd hc g1 g2
  refine ne_dataH r1 r2 (shaped_tup2 _ _) (shaped_tup2 _ _) hu ?_
  rw [show PyData.eqv (.tuple [.list (x.map PyData.int), .list (y.map PyData.int)]) (.tuple [.list (x.map PyData.int), .list (y.map PyData.int)]) = true from by simp only [PyData.eqv, PyData.eqvAll, ked_eqvAll]; simp]
  exact hQ s.toks
theorem sliceV_last {α : Type} (vs : List α) (h : vs ≠ []) : sliceV vs none (some (-1)) = vs.dropLast := by
  have hl : 0 < vs.length := by cases vs with
    | nil => exact absurd rfl h
    | cons _ _ => simp
  unfold sliceV kms_lo kms_hi
  dsimp only
  rw [if_pos (by decide), List.drop_zero, Nat.sub_zero, List.dropLast_eq_take]
  congr 1
end
end Mine
namespace Mine
open PySem PySem.W PyProof.Rows PySem.Spec PySem.Calls
open PySem.Builtin.Int (intBits)

theorem bits_of {x : Int} {m : Nat} (h0 : 0 ≤ x) (h : x < 2 ^ m) : intBits x ≤ m := by
  refine intBits_le_iff.mpr ?_
  have := kbt_cast m
  omega
theorem bits1 : intBits 1 = 1 := by decide
theorem lt_of_bits {x : Int} {m : Nat} (h : intBits x ≤ m) : x < 2 ^ m := by
  have := intBits_le_iff.mp h
  have := kbt_cast m
  omega
theorem bits_mono {x : Int} {m n : Nat} (h : intBits x ≤ m) (hn : m ≤ n) : intBits x ≤ n := Nat.le_trans h hn
theorem bitNot_nat (x : Nat) : (Builtin.bitNot (Builtin.bitNot (x : Int))).toNat = x := by unfold Builtin.bitNot; omega
theorem bitOr_nat (x y : Nat) : Builtin.bitOr (x : Int) (y : Int) = ((x ||| y : Nat) : Int) := by
  have h1 : ¬ (0 ≤ Builtin.bitNot (x : Int)) := by unfold Builtin.bitNot; omega
  have h2 : ¬ (0 ≤ Builtin.bitNot (y : Int)) := by unfold Builtin.bitNot; omega
  have e : Builtin.bitAnd (Builtin.bitNot (x : Int)) (Builtin.bitNot (y : Int)) = Builtin.bitNot (((Builtin.bitNot (Builtin.bitNot (x : Int))).toNat ||| (Builtin.bitNot (Builtin.bitNot (y : Int))).toNat : Nat) : Int) := by
    rw [show Builtin.bitAnd (Builtin.bitNot (x : Int)) (Builtin.bitNot (y : Int)) = (match decide (0 ≤ Builtin.bitNot (x : Int)), decide (0 ≤ Builtin.bitNot (y : Int)) with
      | true, true => (((Builtin.bitNot (x : Int)).toNat &&& (Builtin.bitNot (y : Int)).toNat : Nat) : Int)
      | true, false => Builtin.bitNot (x : Int) - ((Builtin.bitNot (x : Int)).toNat &&& (Builtin.bitNot (Builtin.bitNot (y : Int))).toNat : Nat)
      | false, true => Builtin.bitNot (y : Int) - ((Builtin.bitNot (y : Int)).toNat &&& (Builtin.bitNot (Builtin.bitNot (x : Int))).toNat : Nat)
      | false, false => Builtin.bitNot (((Builtin.bitNot (Builtin.bitNot (x : Int))).toNat ||| (Builtin.bitNot (Builtin.bitNot (y : Int))).toNat : Nat) : Int)) from rfl]
    rw [decide_eq_false h1, decide_eq_false h2]
  unfold Builtin.bitOr
  rw [e, bitNot_nat, bitNot_nat]
  unfold Builtin.bitNot
  omega
theorem or_shift {x y : Int} {h : Nat} (hx : 0 ≤ x) (hy : 0 ≤ y) (hy2 : y < 2 ^ h) : Builtin.bitOr (x * 2 ^ h) y = x * 2 ^ h + y := by
  obtain ⟨x, rfl⟩ := Int.eq_ofNat_of_zero_le hx
  obtain ⟨y, rfl⟩ := Int.eq_ofNat_of_zero_le hy
  have c := kbt_cast h
  have e : (x : Int) * 2 ^ h = ((2 ^ h * x : Nat) : Int) := by rw [Int.natCast_mul, c, Int.mul_comm]
  rw [e, bitOr_nat, ← Nat.two_pow_add_eq_or_of_lt (by omega)]
  push_cast
  rfl
theorem pow_mono {m n : Nat} (h : m ≤ n) : (2 : Int) ^ m ≤ 2 ^ n := by
  have h1 := kbt_cast m
  have h2 := kbt_cast n
  have := Nat.pow_le_pow_right (n := 2) (by decide) h
  omega
theorem pow_ge2 {h : Nat} (hh : 0 < h) : (2 : Int) ≤ 2 ^ h := by
  have := pow_mono (m := 1) (n := h) hh
  omega
/-- the mending step of a three by two division -/
theorem div_end {T q r b : Int} (h : r = T - q * b) (h0 : 0 ≤ r) (h1 : r < b) : q = T / b ∧ r = T % b := by
  have := (Int.ediv_emod_unique (a := T) (b := b) (r := r) (q := q) (by omega)).mpr ⟨by rw [h, Int.mul_comm b q]; omega, h0, h1⟩
  exact ⟨this.1.symm, this.2.symm⟩
theorem emod_lt' {x y : Int} (h : 0 < y) : x % y < y := Int.emod_lt_of_pos x h
theorem emod_nn {x y : Int} (h : 0 < y) : 0 ≤ x % y := Int.emod_nonneg x (by omega)
theorem div_nn {x y : Int} (h : 0 ≤ x) (hy : 0 < y) : 0 ≤ x / y := Int.ediv_nonneg h (by omega)
theorem div_lt {x y z : Int} (hy : 0 < y) (h : x < z * y) : x / y < z := Int.ediv_lt_of_lt_mul hy h
theorem div_mod (x y : Int) : x = x / y * y + x % y := by
  have := Int.mul_ediv_add_emod x y
  rw [Int.mul_comm] at this
  omega

/-- the two ways of _div3n2n, ahead of the while -/
theorem d32_a {a12 a3 b1 b2 B : Int} (hB : 0 < B) (h3 : a3 < B) (hlt : a12 < b1 * B + b2) (hb : b2 < B) :
    (a12 - b1 * B + b1) * B + a3 - (B - 1) * b2 = (a12 * B + a3) - (B - 1) * (b1 * B + b2) ∧ (a12 * B + a3) - (B - 1) * (b1 * B + b2) < b1 * B + b2 := by
  have e1 : (a12 - b1 * B + b1) * B = a12 * B - b1 * B * B + b1 * B := by rw [Int.add_mul, Int.sub_mul]
  have e2 : (B - 1) * (b1 * B + b2) = b1 * B * B + B * b2 - (b1 * B + b2) := by
    rw [Int.sub_mul, Int.mul_add, Int.one_mul, Int.mul_comm B (b1 * B)]
  have e3 : (B - 1) * b2 = B * b2 - b2 := by rw [Int.sub_mul, Int.one_mul]
  have e4 : (a12 + 1) * B ≤ (b1 * B + b2) * B := Int.mul_le_mul_of_nonneg_right (by omega) (by omega)
  have e5 : (a12 + 1) * B = a12 * B + B := by rw [Int.add_mul, Int.one_mul]
  have e6 : (b1 * B + b2) * B = b1 * B * B + B * b2 := by rw [Int.add_mul, Int.mul_comm b2 B]
  omega
theorem d32_b {a12 a3 b1 b2 B q r : Int} (hB : 0 < B) (h3 : a3 < B) (hq : a12 = q * b1 + r) (hq0 : 0 ≤ q) (hr : r < b1) (hb0 : 0 ≤ b2) :
    r * B + a3 - q * b2 = (a12 * B + a3) - q * (b1 * B + b2) ∧ (a12 * B + a3) - q * (b1 * B + b2) < b1 * B + b2 := by
  have e1 : a12 * B = q * b1 * B + r * B := by rw [hq, Int.add_mul]
  have e2 : q * (b1 * B + b2) = q * b1 * B + q * b2 := by rw [Int.mul_add, Int.mul_assoc]
  have e3 : 0 ≤ q * b2 := Int.mul_nonneg hq0 hb0
  have e4 : (r + 1) * B ≤ b1 * B := Int.mul_le_mul_of_nonneg_right (by omega) (by omega)
  have e5 : (r + 1) * B = r * B + B := by rw [Int.add_mul, Int.one_mul]
  omega
/-- two by one out of three by two, twice -/
theorem d21 {a b B : Int} (hB : 0 < B) (hb : 0 < b) (ha : 0 ≤ a) :
    let q1 := (a / B) / b; let r1 := (a / B) % b
    let q2 := (r1 * B + a % B) / b; let r2 := (r1 * B + a % B) % b
    a / b = q1 * B + q2 ∧ a % b = r2 ∧ 0 ≤ q1 ∧ 0 ≤ q2 ∧ q2 < B := by
  intro q1 r1 q2 r2
  have h1 : a = a / B * B + a % B := div_mod a B
  have h2 : a / B = q1 * b + r1 := div_mod (a / B) b
  have h3 : r1 * B + a % B = q2 * b + r2 := div_mod (r1 * B + a % B) b
  have k1 : 0 ≤ a / B := div_nn ha hB
  have k2 : 0 ≤ q1 := div_nn k1 hb
  have k3 : 0 ≤ r1 := emod_nn hb
  have k4 : r1 < b := emod_lt' hb
  have k5 : 0 ≤ a % B := emod_nn hB
  have k6 : a % B < B := emod_lt' hB
  have k7 : 0 ≤ r1 * B := Int.mul_nonneg k3 (by omega)
  have k8 : 0 ≤ q2 := div_nn (by omega) hb
  have k9 : (r1 + 1) * B ≤ b * B := Int.mul_le_mul_of_nonneg_right (by omega) (by omega)
  have k10 : (r1 + 1) * B = r1 * B + B := by rw [Int.add_mul, Int.one_mul]
  have k11 : q2 < B := div_lt hb (by rw [Int.mul_comm B b]; omega)
  have k12 : 0 ≤ r2 := emod_nn hb
  have k13 : r2 < b := emod_lt' hb
  have e : a = (q1 * B + q2) * b + r2 := by
    have x1 : a / B * B = q1 * b * B + r1 * B := by
      have : a / B * B = (q1 * b + r1) * B := by rw [← h2]
      rw [this, Int.add_mul]
    have x2 : (q1 * B + q2) * b = q1 * b * B + q2 * b := by rw [Int.add_mul, Int.mul_assoc, Int.mul_comm B b, ← Int.mul_assoc]
    omega
  have u := (Int.ediv_emod_unique (a := a) (b := b) (r := r2) (q := q1 * B + q2) hb).mpr ⟨by rw [Int.mul_comm b]; omega, k12, k13⟩
  exact ⟨u.1, u.2, k2, k8, k11⟩
theorem div_pad (a b : Int) (hb : 0 < b) : a * 2 / (b * 2) = a / b ∧ a * 2 % (b * 2) / 2 = a % b := by
  have h := div_mod a b
  have h0 : 0 ≤ a % b := emod_nn hb
  have h1 : a % b < b := emod_lt' hb
  have u := (Int.ediv_emod_unique (a := a * 2) (b := b * 2) (r := a % b * 2) (q := a / b) (by omega)).mpr ⟨by
    have : b * 2 * (a / b) = a / b * b * 2 := by rw [Int.mul_comm (b * 2), Int.mul_assoc]
    omega, by omega, by omega⟩
  refine ⟨u.1, ?_⟩
  rw [u.2]
  omega
/-- the quick way never goes by _pylong itself -/
theorem noPylong {a b : Int} {n : Nat} (hn : 0 < n) (ha : 0 ≤ a) (hb : (2 : Int) ^ (n - 1) ≤ b) (hl : ((intBits a : Nat) : Int) - n ≤ 4000) : Builtin.divisionGoesByPylong a b = false := by
  have hp := kbt_pos (n - 1)
  have c := kbt_cast (n - 1)
  have hb0 : b ≠ 0 := by omega
  have lb : n - 1 ≤ b.natAbs.log2 := (Nat.le_log2 (by omega)).mpr (by omega)
  unfold Builtin.divisionGoesByPylong
  have hb1 : (b == 0) = false := by simpa using hb0
  simp only [hb1, Bool.false_eq_true, if_false]
  by_cases h0 : a = 0
  · subst h0; simp
  · have ha1 : (a == 0) = false := by simpa using h0
    have la : a.natAbs.log2 + 1 ≤ n + 4000 := by
      unfold PySem.Builtin.Int.intBits at hl
      rw [ha1] at hl
      simp only [Bool.false_eq_true, if_false] at hl
      omega
    simp only [ha1, Bool.false_eq_true, if_false, Bool.and_eq_false_iff, decide_eq_false_iff_not]
    right
    omega
end Mine
namespace Mine
open PySem PySem.W PyProof.Rows PySem.Spec PySem.Calls
open PySem.Builtin.Int (intBits)

/-- k digits of x by the base 2 ^ n, the lowest first -/
def dig (n : Nat) (x : Int) : Nat → List Int
  | 0 => []
  | k + 1 => x % 2 ^ n :: dig n (x / 2 ^ n) k
theorem dig_length (n : Nat) : ∀ (k : Nat) (x : Int), (dig n x k).length = k
  | 0, _ => rfl
  | k + 1, x => by rw [dig, List.length_cons, dig_length n k]
theorem mod_mod_pow (x : Int) {a b : Nat} (h : a ≤ b) : x % 2 ^ b % 2 ^ a = x % 2 ^ a := by
  refine Int.emod_emod_of_dvd x ?_
  exact ⟨2 ^ (b - a), by rw [← Int.pow_add]; congr 1; omega⟩
theorem div_div_pow (x : Int) (a b : Nat) : x / 2 ^ a / 2 ^ b = x / 2 ^ (a + b) := by
  rw [Int.pow_add, Int.ediv_ediv_of_nonneg (Int.le_of_lt (kbt_pos a))]
theorem mod_div_pow (x : Int) {a b : Nat} (h : a ≤ b) : x % 2 ^ b / 2 ^ a = x / 2 ^ a % 2 ^ (b - a) := by
  have e : (2 : Int) ^ b = 2 ^ a * 2 ^ (b - a) := by rw [← Int.pow_add]; congr 1; omega
  have hA := kbt_pos a
  have hC := kbt_pos (b - a)
  have h1 := div_mod x (2 ^ b)
  have h2 := div_mod (x / 2 ^ a) (2 ^ (b - a))
  have h3 := div_mod x (2 ^ a)
  have h4 := emod_nn (x := x) hA
  have h5 := emod_lt' (x := x) hA
  have h6 := emod_nn (x := x / 2 ^ a) hC
  have h7 := emod_lt' (x := x / 2 ^ a) hC
  have h8 : x / 2 ^ a / 2 ^ (b - a) = x / 2 ^ b := by rw [div_div_pow]; congr 2; omega
  rw [h8] at h2
  -- x % 2^b = x - x/2^b * 2^b = (x/2^a % 2^(b-a)) * 2^a + x % 2^a
  have e2 : x % 2 ^ b = (x / 2 ^ a % 2 ^ (b - a)) * 2 ^ a + x % 2 ^ a := by
    have q : x / 2 ^ a * 2 ^ a = (x / 2 ^ b * 2 ^ (b - a) + x / 2 ^ a % 2 ^ (b - a)) * 2 ^ a := by rw [← h2]
    rw [Int.add_mul, Int.mul_assoc, Int.mul_comm (2 ^ (b - a)), ← e] at q
    omega
  exact ((Int.ediv_emod_unique (a := x % 2 ^ b) (b := 2 ^ a) (q := x / 2 ^ a % 2 ^ (b - a)) (r := x % 2 ^ a) hA).mpr ⟨by rw [e2, Int.mul_comm]; omega, h4, h5⟩).1
/-- digits below and above a place -/
theorem dig_split (n : Nat) : ∀ (a b : Nat) (x : Int), dig n x (a + b) = dig n (x % 2 ^ (n * a)) a ++ dig n (x / 2 ^ (n * a)) b
  | 0, b, x => by simp [dig]
  | a + 1, b, x => by
    have e1 : a + 1 + b = (a + b) + 1 := by omega
    have e2 : n * (a + 1) = n * a + n := by rw [Nat.mul_succ]
    rw [e1, dig, dig_split n a b, dig, List.cons_append]
    congr 1
    · rw [mod_mod_pow]; omega
    · congr 1
      · rw [mod_div_pow _ (by omega : n ≤ n * (a + 1)), show n * (a + 1) - n = n * a from by omega]
      · rw [div_div_pow, show n + n * a = n * (a + 1) from by omega]
theorem dig_one (n : Nat) (x : Int) (h0 : 0 ≤ x) (h : x < 2 ^ n) : dig n x 1 = [x] := by
  rw [dig, dig, Int.emod_eq_of_lt h0 h]
/-- what the row of digits is worth -/
def undig (n : Nat) : List Int → Int
  | [] => 0
  | d :: r => d + 2 ^ n * undig n r
theorem undig_dig (n : Nat) : ∀ (k : Nat) (x : Int), 0 ≤ x → x < 2 ^ (n * k) → undig n (dig n x k) = x
  | 0, x, h0, h => by simp [undig, dig] at *; omega
  | k + 1, x, h0, h => by
    have hN := kbt_pos n
    rw [dig, undig, undig_dig n k _ (div_nn h0 hN) (div_lt hN (by rw [← Int.pow_add]; rw [Nat.mul_succ] at h; exact h))]
    have := div_mod x (2 ^ n)
    rw [Int.mul_comm]
    omega
theorem undig_append (n : Nat) : ∀ (a b : List Int), undig n (a ++ b) = undig n a + 2 ^ (n * a.length) * undig n b
  | [], b => by simp [undig]
  | d :: r, b => by
    rw [List.cons_append, undig, undig, undig_append n r b, List.length_cons, Nat.mul_succ, Int.pow_add, Int.mul_add, Int.mul_comm (2 ^ (n * r.length)) (2 ^ n), Int.mul_assoc, Int.add_assoc]
/-- digits of a row -/
theorem dig_undig (n : Nat) : ∀ (l : List Int), (∀ d ∈ l, 0 ≤ d ∧ d < 2 ^ n) → dig n (undig n l) l.length = l
  | [], _ => rfl
  | d :: r, h => by
    have hN := kbt_pos n
    obtain ⟨h0, h1⟩ := h d (.head _)
    have u := (Int.ediv_emod_unique (a := d + 2 ^ n * undig n r) (b := 2 ^ n) (q := undig n r) (r := d) hN).mpr ⟨by omega, h0, h1⟩
    rw [List.length_cons, dig, undig, u.1, u.2, dig_undig n r fun e he => h e (.tail _ he)]
theorem undig_bound (n : Nat) : ∀ (l : List Int), (∀ d ∈ l, 0 ≤ d ∧ d < 2 ^ n) → 0 ≤ undig n l ∧ undig n l < 2 ^ (n * l.length)
  | [], _ => by simp [undig]
  | d :: r, h => by
    have hN := kbt_pos n
    obtain ⟨h0, h1⟩ := h d (.head _)
    obtain ⟨h2, h3⟩ := undig_bound n r fun e he => h e (.tail _ he)
    have k1 : 0 ≤ 2 ^ n * undig n r := Int.mul_nonneg (by omega) h2
    have k2 : 2 ^ n * (undig n r + 1) ≤ 2 ^ n * 2 ^ (n * r.length) := Int.mul_le_mul_of_nonneg_left (by omega) (by omega)
    rw [Int.mul_add, Int.mul_one, ← Int.pow_add, show n + n * r.length = n * (r.length + 1) from by rw [Nat.mul_succ, Nat.add_comm]] at k2
    rw [undig, List.length_cons]
    omega
theorem dig_bound (n : Nat) : ∀ (k : Nat) (x : Int), ∀ d ∈ dig n x k, 0 ≤ d ∧ d < 2 ^ n
  | 0, _ => by simp [dig]
  | k + 1, x => by
    intro d hd
    rw [dig] at hd
    rcases List.mem_cons.mp hd with rfl | hd
    · exact ⟨emod_nn (kbt_pos n), emod_lt' (kbt_pos n)⟩
    · exact dig_bound n k _ d hd
/-- the lower part by an exclusive or -/
theorem xor_low (x : Int) (s : Nat) (h : 0 ≤ x) : Builtin.bitXor x (x / 2 ^ s * 2 ^ s) = x % 2 ^ s := by
  have hS := kbt_pos s
  have h0 : 0 ≤ x / 2 ^ s := div_nn h hS
  have hm0 := emod_nn (x := x) hS
  have hm1 := emod_lt' (x := x) hS
  have e := div_mod x (2 ^ s)
  -- by halves: bitAnd x (hi * 2 ^ s) = hi * 2 ^ s
  have key : ∀ (s : Nat) (x y : Int), Builtin.bitAnd x (y * 2 ^ s) = Builtin.bitAnd (x / 2 ^ s) y * 2 ^ s := by
    intro s
    induction s with
    | zero => intro x y; simp
    | succ s ih =>
      intro x y
      rw [kbt_halves x (y * 2 ^ (s + 1))]
      have e1 : y * 2 ^ (s + 1) / 2 = y * 2 ^ s := by
        rw [Int.pow_succ, ← Int.mul_assoc]
        exact Int.mul_ediv_cancel _ (by decide)
      have e2 : y * 2 ^ (s + 1) % 2 = 0 := by
        rw [Int.pow_succ, ← Int.mul_assoc]
        exact Int.mul_emod_left _ _
      rw [e1, e2, ih, if_neg (by omega)]
      have e3 : x / 2 / 2 ^ s = x / 2 ^ (s + 1) := by
        have := div_div_pow x 1 s
        rw [show (2 : Int) ^ 1 = 2 from rfl] at this
        rw [this, Nat.add_comm]
      rw [e3, Int.pow_succ]
      rw [Int.add_zero, Int.mul_comm 2, Int.mul_assoc]
  have k := key s x (x / 2 ^ s)
  have self : ∀ z : Int, Builtin.bitAnd z z = z := fun z => by
    have := bitXor_self z
    rw [bitXor_and] at this
    omega
  rw [self] at k
  rw [bitXor_and, k]
  omega
/-- one more digit at the top -/
theorem dig_snoc (n : Nat) (k : Nat) (x : Int) : dig n x (k + 1) = dig n x k ++ [x / 2 ^ (n * k) % 2 ^ n] := by
  rw [dig_split n k 1 x, dig, dig]
  congr 1
  have h := dig_split n k 0 x
  simp only [Nat.add_zero, dig, List.append_nil] at h
  exact h.symm
/-- the place of a row that is filled -/
def fillD (vs : List Int) (L : Nat) (ds : List Int) : List Int := vs.take L ++ ds ++ vs.drop (L + ds.length)
theorem fillD_length {vs : List Int} {L : Nat} {ds : List Int} (h : L + ds.length ≤ vs.length) : (fillD vs L ds).length = vs.length := by
  unfold fillD
  simp only [List.length_append, List.length_take, List.length_drop]
  omega
theorem fillD_one {vs : List Int} {L : Nat} {d : Int} (h : L < vs.length) : vs.set L d = fillD vs L [d] := by
  unfold fillD
  rw [List.set_eq_take_append_cons_drop, if_pos h]
  simp
theorem fillD_two {vs : List Int} {L : Nat} {ds es : List Int} (h : L + ds.length + es.length ≤ vs.length) : fillD (fillD vs L ds) (L + ds.length) es = fillD vs L (ds ++ es) := by
  unfold fillD
  have h1 : (vs.take L).length = L := by rw [List.length_take]; omega
  have e1 : (vs.take L ++ ds ++ vs.drop (L + ds.length)).take (L + ds.length) = vs.take L ++ ds := by
    rw [List.take_append_of_le_length (by simp; omega), List.take_of_length_le (by simp; omega)]
  have e2 : (vs.take L ++ ds ++ vs.drop (L + ds.length)).drop (L + ds.length + es.length) = vs.drop (L + (ds ++ es).length) := by
    rw [List.drop_append, List.drop_of_length_le (by simp; omega), List.drop_drop, List.nil_append]
    congr 1
    simp
    omega
  rw [e1, e2]
  simp
theorem fillD_all {vs ds : List Int} (h : ds.length = vs.length) : fillD vs 0 ds = ds := by
  unfold fillD
  simp [h]
end Mine
namespace Mine
open PySem PySem.W PyProof.Rows PySem.Spec PySem.Calls
open PySem.Builtin.Int (intBits)
/-- what is left by a product -/
theorem mod_mul_div (x : Int) {a b : Int} (ha : 0 < a) (hb : 0 < b) : x % (a * b) = x % a + a * (x / a % b) ∧ x % (a * b) / a = x / a % b ∧ x % (a * b) % a = x % a := by
  have h1 := div_mod x a
  have h2 := div_mod (x / a) b
  have h3 := emod_nn (x := x) ha
  have h4 := emod_lt' (x := x) ha
  have h5 := emod_nn (x := x / a) hb
  have h6 := emod_lt' (x := x / a) hb
  have hab : 0 < a * b := Int.mul_pos ha hb
  have e : x = (a * b) * (x / a / b) + (x % a + a * (x / a % b)) := by
    have : x / a * a = (x / a / b * b + x / a % b) * a := by rw [← h2]
    rw [Int.add_mul] at this
    have e1 : x / a / b * b * a = a * b * (x / a / b) := by rw [Int.mul_assoc, Int.mul_comm b a, Int.mul_comm]
    have e2 : x / a % b * a = a * (x / a % b) := Int.mul_comm _ _
    omega
  have k1 : 0 ≤ a * (x / a % b) := Int.mul_nonneg (by omega) h5
  have k2 : a * (x / a % b + 1) ≤ a * b := Int.mul_le_mul_of_nonneg_left (by omega) (by omega)
  rw [Int.mul_add, Int.mul_one] at k2
  have m : x % (a * b) = x % a + a * (x / a % b) := ((Int.ediv_emod_unique (a := x) (b := a * b) (q := x / a / b) (r := x % a + a * (x / a % b)) hab).mpr ⟨by omega, by omega, by omega⟩).2
  refine ⟨m, ?_, ?_⟩
  · rw [m, Int.add_mul_ediv_left _ _ (by omega), Int.ediv_eq_zero_of_lt h3 h4, Int.zero_add]
  · rw [m, Int.add_mul_emod_self_left, Int.emod_emod]
theorem dig_get (n : Nat) : ∀ (k : Nat) (x : Int) {i : Nat}, i < k → (dig n x k)[i]? = some (x / 2 ^ (n * i) % 2 ^ n)
  | 0, _, _, h => by omega
  | k + 1, x, 0, _ => by simp [dig]
  | k + 1, x, i + 1, h => by
    rw [dig, List.getElem?_cons_succ, dig_get n k _ (by omega), div_div_pow, Nat.mul_succ, Nat.add_comm]
theorem dig_mod (n k : Nat) (x : Int) : dig n x k = dig n (x % 2 ^ (n * k)) k := by
  have h := dig_split n k 0 x
  simpa [dig] using h
theorem dig_congr {n k : Nat} {x y : Int} (h : x % 2 ^ (n * k) = y % 2 ^ (n * k)) : dig n x k = dig n y k := by
  rw [dig_mod n k x, dig_mod n k y, h]
theorem fillD_hi {vs ds : List Int} {L j : Nat} (hL : L + ds.length ≤ vs.length) (h : L + ds.length ≤ j) : (fillD vs L ds)[j]? = vs[j]? := by
  unfold fillD
  rw [List.getElem?_append_right (by simp; omega), List.getElem?_drop]
  congr 1
  simp
  omega
theorem fillD_in {vs ds : List Int} {L j : Nat} (hL : L ≤ vs.length) (h : j < ds.length) : (fillD vs L ds)[L + j]? = ds[j]? := by
  unfold fillD
  rw [List.append_assoc, List.getElem?_append_right (by simp; omega), List.getElem?_append_left (by simp; omega)]
  congr 1
  simp
  omega
theorem fillD_lo {vs ds : List Int} {L j : Nat} (hL : L ≤ vs.length) (h : j < L) : (fillD vs L ds)[j]? = vs[j]? := by
  unfold fillD
  rw [List.append_assoc, List.getElem?_append_left (by simp; omega), List.getElem?_take, if_pos h]
theorem fillD_nil {vs : List Int} {L : Nat} : fillD vs L [] = vs := by simp [fillD]
theorem fillD_over {vs ds es : List Int} {L : Nat} (h : ds.length = es.length) (hL : L + ds.length ≤ vs.length) : fillD (fillD vs L ds) L es = fillD vs L es := by
  have l1 : (fillD vs L ds).length = vs.length := fillD_length hL
  refine List.ext_getElem? fun j => ?_
  rcases Nat.lt_or_ge j L with q | q
  · rw [fillD_lo (by omega) q, fillD_lo (by omega) q, fillD_lo (by omega) q]
  · obtain ⟨i, rfl⟩ : ∃ i, j = L + i := ⟨j - L, by omega⟩
    rcases Nat.lt_or_ge i es.length with q2 | q2
    · rw [fillD_in (by omega) q2, fillD_in (by omega) q2]
    · rw [fillD_hi (by omega) (by omega), fillD_hi (by omega) (by omega), fillD_hi (by omega) (by omega)]
theorem fillD_snoc {vs ds : List Int} {L i : Nat} {y : Int} (h : ds.length = i) (hL : L + i < vs.length) : (fillD vs L ds).set (L + i) y = fillD vs L (ds ++ [y]) := by
  subst h
  rw [fillD_one (by rw [fillD_length (by omega)]; exact hL), fillD_two (by simp; omega)]

/-- a row and so many times another one, as far as a place -/
def acc (n : Nat) (g X W : Int) (i : Nat) : Int := X % 2 ^ (n * i) + g * (W % 2 ^ (n * i))
theorem mod_succ (n : Nat) (x : Int) (i : Nat) : x % 2 ^ (n * (i + 1)) = x % 2 ^ (n * i) + 2 ^ (n * i) * (x / 2 ^ (n * i) % 2 ^ n) := by
  rw [Nat.mul_succ, Int.pow_add]
  exact (mod_mul_div x (kbt_pos _) (kbt_pos _)).1
theorem acc_step (n : Nat) (g X W : Int) (i : Nat) : acc n g X W (i + 1) = acc n g X W i + 2 ^ (n * i) * (X / 2 ^ (n * i) % 2 ^ n + g * (W / 2 ^ (n * i) % 2 ^ n)) := by
  unfold acc
  rw [mod_succ, mod_succ, Int.mul_add, Int.mul_add]
  have : g * (2 ^ (n * i) * (W / 2 ^ (n * i) % 2 ^ n)) = 2 ^ (n * i) * (g * (W / 2 ^ (n * i) % 2 ^ n)) := by
    rw [← Int.mul_assoc, Int.mul_comm g, Int.mul_assoc]
  omega
theorem acc_zero (n : Nat) (g X W : Int) : acc n g X W 0 = 0 := by simp [acc, Int.emod_one]
/-- the number that a turn of the loop makes -/
theorem acc_z (n : Nat) (g X W : Int) (i : Nat) : acc n g X W (i + 1) / 2 ^ (n * i) = X / 2 ^ (n * i) % 2 ^ n + acc n g X W i / 2 ^ (n * i) + g * (W / 2 ^ (n * i) % 2 ^ n) := by
  rw [acc_step, Int.add_mul_ediv_left _ _ (by have := kbt_pos (n * i); omega)]
  omega
theorem acc_carry (n : Nat) (g X W : Int) (i : Nat) : acc n g X W (i + 1) / 2 ^ (n * i) / 2 ^ n = acc n g X W (i + 1) / 2 ^ (n * (i + 1)) := by
  rw [div_div_pow, Nat.mul_succ]
theorem acc_dig (n : Nat) (g X W : Int) (i : Nat) : dig n (acc n g X W i) i ++ [acc n g X W (i + 1) / 2 ^ (n * i) % 2 ^ n] = dig n (acc n g X W (i + 1)) (i + 1) := by
  rw [dig_snoc]
  congr 1
  refine dig_congr ?_
  rw [acc_step, Int.add_mul_emod_self_left]

/-- Knuth's guess: too great -/
theorem kn_L {g U W S : Int} (hS : 0 < S) (hW : 0 < W) (hg : 0 ≤ g) (h : U / S < g * (W / S)) : U / W < g := by
  rcases Int.lt_or_le (U / W) g with q | q
  · exact q
  exfalso
  have h1 := div_mod U W
  have h2 := emod_nn (x := U) hW
  have h3 := div_mod U S
  have h4 := emod_lt' (x := U) hS
  have h5 := div_mod W S
  have h6 := emod_nn (x := W) hS
  have k1 : g * W ≤ U / W * W := Int.mul_le_mul_of_nonneg_right q (by omega)
  have k2 : g * W = g * (W / S) * S + g * (W % S) := by
    have : g * W = g * (W / S * S + W % S) := by rw [← h5]
    rw [this, Int.mul_add, Int.mul_assoc]
  have k3 : 0 ≤ g * (W % S) := Int.mul_nonneg hg h6
  have k4 : (U / S + 1) * S ≤ g * (W / S) * S := Int.mul_le_mul_of_nonneg_right (by omega) (by omega)
  rw [Int.add_mul, Int.one_mul] at k4
  omega
/-- Knuth's guess: at most one too great -/
theorem kn_B {g U W S : Int} (hS : 0 < S) (hW : 0 < W) (hU : 0 ≤ U) (h : g * (W / S) ≤ U / S) (hg : g ≤ W / S + 1) : g ≤ U / W + 1 := by
  rcases Int.lt_or_le (U / W + 1) g with q | q
  · exfalso
    have h0 : 0 ≤ U / W := div_nn hU hW
    have h1 := div_mod U W
    have h2 := emod_lt' (x := U) hW
    have h3 := div_mod U S
    have h4 := emod_nn (x := U) hS
    have h5 := div_mod W S
    have h6 := emod_lt' (x := W) hS
    have k1 : (U / W + 1) * W ≤ (g - 1) * W := Int.mul_le_mul_of_nonneg_right (by omega) (by omega)
    rw [Int.add_mul, Int.one_mul] at k1
    have k2 : (g - 1) * W ≤ (g - 1) * ((W / S + 1) * S) := Int.mul_le_mul_of_nonneg_left (by rw [Int.add_mul, Int.one_mul]; omega) (by omega)
    have k3 : (g - 1) * ((W / S + 1) * S) = (g * (W / S) - W / S + g - 1) * S := by
      rw [← Int.mul_assoc]
      congr 1
      rw [Int.sub_mul, Int.mul_add, Int.one_mul, Int.mul_one]
      omega
    have k4 : (g * (W / S) - W / S + g - 1) * S ≤ U / S * S := Int.mul_le_mul_of_nonneg_right (by omega) (by omega)
    omega
  · exact q
/-- the loop's guess and rest -/
structure KI (n s : Nat) (U W g r : Int) : Prop where
  eq : g * (W / 2 ^ (n * (s - 1))) + r = U / 2 ^ (n * (s - 1))
  lo : U / W ≤ g
  hi : g ≤ 2 ^ n + 1
  nn : 0 ≤ g
  r0 : 0 ≤ r
theorem two_places {n s : Nat} (hs : 2 ≤ s) (x : Int) : x / 2 ^ (n * (s - 2)) = x / 2 ^ (n * (s - 1)) * 2 ^ n + x / 2 ^ (n * (s - 2)) % 2 ^ n := by
  have h := div_mod (x / 2 ^ (n * (s - 2))) (2 ^ n)
  rw [div_div_pow, show n * (s - 2) + n = n * (s - 1) from by rw [← Nat.mul_succ]; congr 1; omega] at h
  exact h
theorem kn_test {g r w1 w2 u2 P h : Int} (e : g * w1 + r = h) : (r * P + u2 < g * w2) ↔ (h * P + u2 < g * (w1 * P + w2)) := by
  rw [← e, Int.add_mul, Int.mul_add, Int.mul_assoc]
  omega
structure KW (n s : Nat) (U W : Int) : Prop where
  n0 : 0 < n
  s2 : 2 ≤ s
  w0 : 2 ^ (n * s) ≤ 2 * W
  w1 : W < 2 ^ (n * s)
  u0 : 0 ≤ U
  u1 : U < 2 ^ n * W
theorem KW.wpos {n s : Nat} {U W : Int} (h : KW n s U W) : 0 < W := by have := kbt_pos (n * s); have := h.w0; omega
theorem KW.split {n s : Nat} {U W : Int} (h : KW n s U W) : (2 : Int) ^ (n * s) = 2 ^ (n * (s - 1)) * 2 ^ n := by
  rw [← Int.pow_add, ← Nat.mul_succ]
  congr 2
  have := h.s2
  omega
/-- the top digit -/
theorem KW.top {n s : Nat} {U W : Int} (h : KW n s U W) : 2 ^ n ≤ 2 * (W / 2 ^ (n * (s - 1))) ∧ W / 2 ^ (n * (s - 1)) < 2 ^ n ∧ 0 < W / 2 ^ (n * (s - 1)) := by
  have hT := kbt_pos (n * (s - 1))
  have e := h.split
  have w0 := h.w0
  have w1 := h.w1
  obtain ⟨n', rfl⟩ : ∃ n', n = n' + 1 := ⟨n - 1, by have := h.n0; omega⟩
  have hP : (2 : Int) ^ (n' + 1) = 2 * 2 ^ n' := by rw [Int.pow_succ, Int.mul_comm]
  have hp := kbt_pos n'
  have k1 : 2 ^ n' ≤ W / 2 ^ ((n' + 1) * (s - 1)) := by
    refine (Int.le_ediv_iff_mul_le hT).mpr ?_
    rw [Int.mul_comm]
    rw [e, hP, Int.mul_left_comm] at w0
    omega
  refine ⟨by omega, div_lt hT (by rw [Int.mul_comm, ← e]; exact w1), by omega⟩
theorem KI.init {n s : Nat} {U W : Int} (h : KW n s U W) : KI n s U W (U / 2 ^ (n * (s - 1)) / (W / 2 ^ (n * (s - 1)))) (U / 2 ^ (n * (s - 1)) % (W / 2 ^ (n * (s - 1)))) := by
  obtain ⟨t1, t2, t3⟩ := h.top
  have hT := kbt_pos (n * (s - 1))
  have hS := kbt_pos (n * (s - 2))
  have hP := kbt_pos n
  have hW := h.wpos
  have u0 := h.u0
  have q0 : 0 ≤ U / W := div_nn u0 hW
  have d := div_mod (U / 2 ^ (n * (s - 1))) (W / 2 ^ (n * (s - 1)))
  have hd0 : 0 ≤ U / 2 ^ (n * (s - 1)) := div_nn u0 hT
  have uw := two_places (n := n) h.s2 U
  have ww := two_places (n := n) h.s2 W
  refine ⟨d.symm, ?_, ?_, div_nn hd0 t3, emod_nn t3⟩
  · refine (Int.le_ediv_iff_mul_le t3).mpr ?_
    rcases Int.lt_or_le (U / 2 ^ (n * (s - 1))) (U / W * (W / 2 ^ (n * (s - 1)))) with q | q
    · exfalso
      have := kn_L (g := U / W) (U := U) (W := W) hS hW q0 (by
        rw [uw, ww, Int.mul_add, ← Int.mul_assoc]
        have k1 : (U / 2 ^ (n * (s - 1)) + 1) * 2 ^ n ≤ U / W * (W / 2 ^ (n * (s - 1))) * 2 ^ n := Int.mul_le_mul_of_nonneg_right (by omega) (by omega)
        rw [Int.add_mul, Int.one_mul] at k1
        have k2 : 0 ≤ U / W * (W / 2 ^ (n * (s - 2)) % 2 ^ n) := Int.mul_nonneg q0 (emod_nn hP)
        have k3 := emod_lt' (x := U / 2 ^ (n * (s - 2))) hP
        omega)
      omega
    · exact q
  · have k : U / 2 ^ (n * (s - 1)) < (2 ^ n + 2) * (W / 2 ^ (n * (s - 1))) := by
      have h5 := div_mod W (2 ^ (n * (s - 1)))
      have h6 := emod_lt' (x := W) hT
      have u1 := h.u1
      have k1 : 2 ^ n * W ≤ 2 ^ n * ((W / 2 ^ (n * (s - 1)) + 1) * 2 ^ (n * (s - 1))) := Int.mul_le_mul_of_nonneg_left (by rw [Int.add_mul, Int.one_mul]; omega) (by omega)
      have k2 : U / 2 ^ (n * (s - 1)) < 2 ^ n * (W / 2 ^ (n * (s - 1)) + 1) := div_lt hT (by rw [Int.mul_assoc]; omega)
      rw [Int.mul_add, Int.mul_one] at k2
      rw [Int.add_mul]
      omega
    have := div_lt t3 k
    omega
theorem KI.step {n s : Nat} {U W g r : Int} (h : KW n s U W) (i : KI n s U W g r) (ht : r * 2 ^ n + U / 2 ^ (n * (s - 2)) % 2 ^ n < g * (W / 2 ^ (n * (s - 2)) % 2 ^ n)) : KI n s U W (g - 1) (r + W / 2 ^ (n * (s - 1))) := by
  have hS := kbt_pos (n * (s - 2))
  have hW := h.wpos
  obtain ⟨t1, t2, t3⟩ := h.top
  have q0 : 0 ≤ U / W := div_nn h.u0 hW
  have uw := two_places (n := n) h.s2 U
  have ww := two_places (n := n) h.s2 W
  have k := (kn_test i.eq).mp ht
  rw [← uw, ← ww] at k
  have := kn_L hS hW i.nn k
  have e := i.eq
  refine ⟨by rw [Int.sub_mul, Int.one_mul]; omega, by omega, by have := i.hi; omega, by omega, by have := i.r0; omega⟩
theorem KI.done {n s : Nat} {U W g r : Int} (h : KW n s U W) (i : KI n s U W g r) (ht : ¬ (r < 2 ^ n ∧ r * 2 ^ n + U / 2 ^ (n * (s - 2)) % 2 ^ n < g * (W / 2 ^ (n * (s - 2)) % 2 ^ n))) : U / W ≤ g ∧ g ≤ U / W + 1 := by
  have hS := kbt_pos (n * (s - 2))
  have hP := kbt_pos n
  have hW := h.wpos
  obtain ⟨t1, t2, t3⟩ := h.top
  have uw := two_places (n := n) h.s2 U
  have ww := two_places (n := n) h.s2 W
  have u2 := emod_nn (x := U / 2 ^ (n * (s - 2))) hP
  have w2 := emod_nn (x := W / 2 ^ (n * (s - 2))) hP
  have w3 := emod_lt' (x := W / 2 ^ (n * (s - 2))) hP
  have hi := i.hi
  have nn := i.nn
  have k : ¬ (r * 2 ^ n + U / 2 ^ (n * (s - 2)) % 2 ^ n < g * (W / 2 ^ (n * (s - 2)) % 2 ^ n)) := fun q => by
    rcases Int.lt_or_le r (2 ^ n) with q2 | q2
    · exact ht ⟨q2, q⟩
    · have k1 : (2 : Int) ^ n * 2 ^ n ≤ r * 2 ^ n := Int.mul_le_mul_of_nonneg_right q2 (by omega)
      have k2 : g * (W / 2 ^ (n * (s - 2)) % 2 ^ n) ≤ (2 ^ n + 1) * (W / 2 ^ (n * (s - 2)) % 2 ^ n) := Int.mul_le_mul_of_nonneg_right hi w2
      have k3 : ((2 : Int) ^ n + 1) * (W / 2 ^ (n * (s - 2)) % 2 ^ n) ≤ (2 ^ n + 1) * (2 ^ n - 1) := Int.mul_le_mul_of_nonneg_left (by omega) (by omega)
      have k4 : ((2 : Int) ^ n + 1) * (2 ^ n - 1) = 2 ^ n * 2 ^ n - 1 := by rw [Int.add_mul, Int.mul_sub, Int.mul_one, Int.one_mul]; omega
      omega
  rw [kn_test i.eq, ← uw, ← ww] at k
  refine ⟨i.lo, kn_B hS hW h.u0 (by omega) ?_⟩
  rw [ww]
  have k5 : 1 * (2 : Int) ^ n ≤ W / 2 ^ (n * (s - 1)) * 2 ^ n := Int.mul_le_mul_of_nonneg_right (by omega) (by omega)
  omega
/-- the head of the window -/
theorem KW.head {n s : Nat} {U W : Int} (h : KW n s U W) : U / 2 ^ (n * s) % 2 ^ n * 2 ^ n + U / 2 ^ (n * (s - 1)) % 2 ^ n = U / 2 ^ (n * (s - 1)) ∧ U / 2 ^ (n * s) % 2 ^ n = U / 2 ^ (n * s) := by
  have hP := kbt_pos n
  have hQ := kbt_pos (n * s)
  have u1 := h.u1
  have w1 := h.w1
  have e : n * s = n * (s - 1) + n := by rw [← Nat.mul_succ]; congr 1; have := h.s2; omega
  have q0 : 0 ≤ U / 2 ^ (n * s) := div_nn h.u0 hQ
  have q1 : U / 2 ^ (n * s) < 2 ^ n := div_lt hQ (by
    have : 2 ^ n * W ≤ 2 ^ n * 2 ^ (n * s) := Int.mul_le_mul_of_nonneg_left (by omega) (by omega)
    omega)
  have m : U / 2 ^ (n * s) % 2 ^ n = U / 2 ^ (n * s) := Int.emod_eq_of_lt q0 q1
  refine ⟨?_, m⟩
  have d := div_mod (U / 2 ^ (n * (s - 1))) (2 ^ n)
  rw [div_div_pow, ← e] at d
  rw [m]
  exact d.symm
/-- the sign after the product is taken away -/
theorem KW.sign {n s : Nat} {U W g : Int} (h : KW n s U W) : U / 2 ^ (n * s) % 2 ^ n + acc n (-g) U W s / 2 ^ (n * s) = (U - g * W) / 2 ^ (n * s) := by
  have hQ := kbt_pos (n * s)
  rw [h.head.2]
  have e : acc n (-g) U W s = U % 2 ^ (n * s) - g * W := by
    unfold acc
    rw [Int.emod_eq_of_lt (Int.le_of_lt h.wpos) h.w1, Int.neg_mul]
    omega
  have d := div_mod U (2 ^ (n * s))
  rw [e, show U - g * W = (U % 2 ^ (n * s) - g * W) + 2 ^ (n * s) * (U / 2 ^ (n * s)) from by rw [Int.mul_comm (2 ^ (n * s))]; omega, Int.add_mul_ediv_left _ _ (by omega)]
  omega
theorem neg_div {x p : Int} (hp : 0 < p) : x / p < 0 ↔ x < 0 := by
  constructor
  · intro h
    rcases Int.lt_or_le x 0 with q | q
    · exact q
    · have := div_nn q hp; omega
  · intro h
    exact div_lt hp (by omega)
/-- no product too much -/
theorem KW.plain {n s : Nat} {U W : Int} (h : KW n s U W) : dig n (acc n (-(U / W)) U W s) s = dig n (U % W) s := by
  refine dig_congr ?_
  unfold acc
  rw [Int.emod_eq_of_lt (Int.le_of_lt h.wpos) h.w1, Int.emod_add_emod]
  congr 1
  have := div_mod U W
  rw [Int.neg_mul]
  omega
/-- one product too much: the divisor is given back -/
theorem KW.back {n s : Nat} {U W : Int} (h : KW n s U W) : dig n (acc n 1 (acc n (-(U / W + 1)) U W s) W s) s = dig n (U % W) s := by
  refine dig_congr ?_
  have e : ∀ x : Int, acc n 1 x W s = x % 2 ^ (n * s) + W := fun x => by
    unfold acc
    rw [Int.emod_eq_of_lt (Int.le_of_lt h.wpos) h.w1, Int.one_mul]
  rw [e, Int.emod_add_emod]
  unfold acc
  rw [Int.emod_eq_of_lt (Int.le_of_lt h.wpos) h.w1, Int.add_assoc, Int.emod_add_emod]
  congr 1
  have := div_mod U W
  rw [Int.neg_mul, Int.add_mul, Int.one_mul]
  omega
end Mine
namespace Mine
open PySem PySem.W PyProof.Rows PySem.Spec PySem.Calls
open PySem.Builtin.Int (intBits)
/-- what is left of the dividend when the places from k on are done -/
def stg (n : Nat) (Y W : Int) (k : Nat) : Int := Y % (2 ^ (n * k) * W)
def win (n : Nat) (Y W : Int) (k : Nat) : Int := stg n Y W (k + 1) / 2 ^ (n * k)
theorem pw_succ (n k : Nat) : (2 : Int) ^ (n * (k + 1)) = 2 ^ (n * k) * 2 ^ n := by rw [Nat.mul_succ, Int.pow_add]
section
variable {n s k : Nat} {Y W : Int}
theorem win_kw (n0 : 0 < n) (s2 : 2 ≤ s) (w0 : 2 ^ (n * s) ≤ 2 * W) (w1 : W < 2 ^ (n * s)) : KW n s (win n Y W k) W := by
  have hW : 0 < W := by have := kbt_pos (n * s); omega
  have hk := kbt_pos (n * k)
  have hm : 0 < (2 : Int) ^ (n * (k + 1)) * W := Int.mul_pos (kbt_pos _) hW
  refine ⟨n0, s2, w0, w1, div_nn (emod_nn hm) hk, ?_⟩
  have h1 := emod_lt' (x := Y) hm
  refine div_lt hk ?_
  unfold stg
  rw [pw_succ] at h1 ⊢
  rw [show 2 ^ n * W * 2 ^ (n * k) = 2 ^ (n * k) * 2 ^ n * W from by rw [Int.mul_comm, ← Int.mul_assoc]]
  exact h1
theorem win_dig {len i : Nat} (h : k + i < len) : (dig n (stg n Y W (k + 1)) len)[k + i]? = some (win n Y W k / 2 ^ (n * i) % 2 ^ n) := by
  rw [dig_get n len _ h]
  unfold win
  rw [div_div_pow, Nat.mul_add]
theorem stg_next (hW : 0 < W) : stg n Y W k = stg n Y W (k + 1) % (2 ^ (n * k) * W) := by
  unfold stg
  refine (Int.emod_emod_of_dvd _ ⟨2 ^ n, ?_⟩).symm
  rw [pw_succ, Int.mul_assoc, Int.mul_assoc, Int.mul_comm W]
theorem stg_parts (hW : 0 < W) : stg n Y W k / 2 ^ (n * k) = win n Y W k % W ∧ stg n Y W k % 2 ^ (n * k) = stg n Y W (k + 1) % 2 ^ (n * k) := by
  rw [stg_next hW]
  have h := mod_mul_div (stg n Y W (k + 1)) (kbt_pos (n * k)) hW
  exact ⟨h.2.1, h.2.2⟩
/-- the row after a turn -/
theorem row_next {len : Nat} (n0 : 0 < n) (s2 : 2 ≤ s) (w0 : 2 ^ (n * s) ≤ 2 * W) (w1 : W < 2 ^ (n * s)) (h : k + s < len) :
    (fillD (dig n (stg n Y W (k + 1)) len) k (dig n (win n Y W k % W) s)).set (k + s) 0 = dig n (stg n Y W k) len := by
  have hW : 0 < W := by have := kbt_pos (n * s); omega
  obtain ⟨p1, p2⟩ := stg_parts (n := n) (Y := Y) (k := k) hW
  have hm : 0 < (2 : Int) ^ (n * (k + 1)) * W := Int.mul_pos (kbt_pos _) hW
  have hm2 : 0 < (2 : Int) ^ (n * k) * W := Int.mul_pos (kbt_pos _) hW
  have r0 := emod_nn (x := win n Y W k) hW
  have r1 := emod_lt' (x := win n Y W k) hW
  rw [fillD_snoc (dig_length ..) (by rw [dig_length]; exact h)]
  have ll : (dig n (win n Y W k % W) s ++ [0]).length = s + 1 := by simp [dig_length]
  refine List.ext_getElem? fun j => ?_
  have lV : (dig n (stg n Y W (k + 1)) len).length = len := dig_length ..
  rcases Nat.lt_or_ge j len with q | q
  · rw [dig_get n len _ q]
    rcases Nat.lt_or_ge j k with q1 | q1
    · rw [fillD_lo (by omega) q1, dig_get n len _ q]
      have e := congrArg (fun l : List Int => l[j]?) (dig_congr (n := n) (k := k) p2)
      simp only [dig_get n k _ q1] at e
      exact e.symm
    · obtain ⟨i, rfl⟩ : ∃ i, j = k + i := ⟨j - k, by omega⟩
      have e1 : stg n Y W k / 2 ^ (n * (k + i)) = win n Y W k % W / 2 ^ (n * i) := by rw [Nat.mul_add, ← div_div_pow, p1]
      rcases Nat.lt_or_ge i (s + 1) with q2 | q2
      · rw [fillD_in (by omega) (by omega), e1]
        rcases Nat.lt_or_ge i s with q3 | q3
        · rw [List.getElem?_append_left (by rw [dig_length]; exact q3), dig_get n s _ q3]
        · have : i = s := by omega
          subst this
          rw [List.getElem?_append_right (by rw [dig_length]; exact Nat.le_refl _), dig_length, Nat.sub_self, Int.ediv_eq_zero_of_lt r0 (by omega)]
          simp
      · rw [fillD_hi (by rw [ll, lV]; omega) (by rw [ll]; omega), dig_get n len _ q, e1]
        have g1 : (2 : Int) ^ (n * s) ≤ 2 ^ (n * i) := pow_mono (Nat.mul_le_mul_left _ (by omega))
        rw [Int.ediv_eq_zero_of_lt r0 (by omega)]
        have g2 : stg n Y W (k + 1) < 2 ^ (n * (k + i)) := by
          have b1 : stg n Y W (k + 1) < 2 ^ (n * (k + 1)) * W := emod_lt' hm
          have b2 : (2 : Int) ^ (n * (k + 1)) * W ≤ 2 ^ (n * (k + 1)) * 2 ^ (n * s) := Int.mul_le_mul_of_nonneg_left (by omega) (Int.le_of_lt (kbt_pos _))
          rw [← Int.pow_add, ← Nat.mul_add] at b2
          have b3 : (2 : Int) ^ (n * (k + 1 + s)) ≤ 2 ^ (n * (k + i)) := pow_mono (Nat.mul_le_mul_left _ (by omega))
          omega
        rw [Int.ediv_eq_zero_of_lt (show 0 ≤ stg n Y W (k + 1) from emod_nn hm) g2]
  · rw [List.getElem?_eq_none (by rw [fillD_length (by rw [ll, lV]; omega), lV]; exact q), List.getElem?_eq_none (by rw [dig_length]; exact q)]
/-- the quotient's row after a turn -/
theorem quo_next (hW : 0 < W) (j : Nat) : win n Y W k / W :: dig n (Y / (2 ^ (n * (k + 1)) * W)) j = dig n (Y / (2 ^ (n * k) * W)) (j + 1) := by
  have hP := kbt_pos n
  have hk := kbt_pos (n * k)
  have hm2 : 0 < (2 : Int) ^ (n * k) * W := Int.mul_pos hk hW
  have e : (2 : Int) ^ (n * (k + 1)) * W = 2 ^ (n * k) * W * 2 ^ n := by rw [pw_succ, Int.mul_assoc, Int.mul_assoc, Int.mul_comm W]
  have h := mod_mul_div Y hm2 hP
  rw [dig]
  congr 1
  · unfold win stg
    rw [Int.ediv_ediv_of_nonneg (Int.le_of_lt hk), e, h.2.1]
  · rw [e, Int.ediv_ediv_of_nonneg (Int.le_of_lt hm2)]
/-- the start: nothing done yet -/
theorem stg_start {m K : Nat} (s2 : 2 ≤ s) (w0 : 2 ^ (n * s) ≤ 2 * W) (n0 : 0 < n) (hK : m ≤ K + s - 1) (y0 : 0 ≤ Y) (y1 : Y < 2 ^ (n * m)) : stg n Y W K = Y ∧ Y / (2 ^ (n * K) * W) = 0 ∧ Y < 2 ^ (n * K) * W := by
  have hk := kbt_pos (n * K)
  have hw : 2 ^ (n * (s - 1)) ≤ W := by
    have e : n * s = n * (s - 1) + n := by rw [← Nat.mul_succ]; congr 1; omega
    have p2 : (2 : Int) ≤ 2 ^ n := pow_ge2 n0
    have : (2 : Int) ^ (n * (s - 1)) * 2 ≤ 2 ^ (n * (s - 1)) * 2 ^ n := Int.mul_le_mul_of_nonneg_left p2 (Int.le_of_lt (kbt_pos _))
    rw [e, Int.pow_add] at w0
    omega
  have b1 : (2 : Int) ^ (n * K) * 2 ^ (n * (s - 1)) ≤ 2 ^ (n * K) * W := Int.mul_le_mul_of_nonneg_left hw (by omega)
  rw [← Int.pow_add, ← Nat.mul_add] at b1
  have b2 : (2 : Int) ^ (n * m) ≤ 2 ^ (n * (K + (s - 1))) := pow_mono (Nat.mul_le_mul_left _ (by omega))
  have b3 : Y < 2 ^ (n * K) * W := by omega
  exact ⟨Int.emod_eq_of_lt y0 b3, Int.ediv_eq_zero_of_lt y0 b3, b3⟩
end
theorem stg_zero (n : Nat) (Y W : Int) : stg n Y W 0 = Y % W := by simp [stg]
theorem dig_take (n : Nat) : ∀ (k i : Nat) (x : Int), (dig n x k).take i = dig n x (min i k)
  | 0, i, x => by simp [dig]
  | k + 1, 0, x => by simp [dig]
  | k + 1, i + 1, x => by
    rw [dig, List.take_succ_cons, dig_take n k i, show min (i + 1) (k + 1) = min i k + 1 from by omega, dig]
theorem dig_last (n : Nat) (k : Nat) (x : Int) : (dig n x (k + 1)).dropLast = dig n x k := by rw [dig_snoc, List.dropLast_concat]
theorem dig_pad {n m : Nat} {x : Int} (h0 : 0 ≤ x) (h : x < 2 ^ (n * m)) : dig n x m ++ [0] = dig n x (m + 1) := by
  rw [dig_snoc, Int.ediv_eq_zero_of_lt h0 h]
  simp
end Mine
namespace Mine
open PySem PySem.W PyProof.Rows PySem.Spec PySem.Calls
open PySem.Builtin.Int (intBits)
abbrev thePw : Program := PySem.Challenge.pw_dn0136_01

def defAt (p : Program) (i : Nat) : Option (Str × Arguments × List Stmt × Scope) := match p.main.body[i]? with
  | some (.FunctionDef n a b _ _ _ sc _ _ _) => some (n, a, b, sc)
  | _ => none
def bodyAt (p : Program) (i : Nat) : List Stmt := match defAt p i with | some (_, _, b, _) => b | none => []
def argsAt (p : Program) (i : Nat) : Arguments := match defAt p i with | some (_, a, _, _) => a | none => default
def scopeAt (p : Program) (i : Nat) : Scope := match defAt p i with | some (_, _, _, s) => s | none => default

/-- a def of the text stands in the written part -/
structure Has (G : GX) (i : Nat) (nm : Str) (f : Addr) : Prop where
  ns : nsIn G.K mainGlobals nm = some (some (.ref f))
  obj : ∃ oc od osl doc pm an cdv ct, G.K.lookup f = some ⟨oc, od, .func (fnX nm nm (argsAt thePw i) (bodyAt thePw i) (scopeAt thePw i) [] .none .none doc pm an cdv ct), osl⟩ ∧ codeIn G.K cdv nm = true
theorem Has.keep {G : GX} {i : Nat} {nm : Str} {f : Addr} (h : Has G i nm f) : keepIn G.K (.ref f) = true := by
  obtain ⟨_, _, _, _, _, _, _, _, e, _⟩ := h.obj
  unfold keepIn
  simp only
  rw [e]
structure Lib (G : GX) where
  fDiv : Addr
  fD32 : Addr
  hDiv : Has G 2 (Str.ofString "_div2n1n") fDiv
  hD32 : Has G 3 (Str.ofString "_div3n2n") fD32
  tLim : Tok
  hLim : nsIn G.K mainGlobals (Str.ofString "_DIV_LIMIT") = some (some (.int 4000 tLim))
  hdm : nsIn G.K mainGlobals (Str.ofString "divmod") = some none
theorem Ev.cast {G : GX} {X : FX} {σ : AS} {e : Expr} {a b : Int} (h : Ev G X σ e (.int a)) (q : a = b) : Ev G X σ e (.int b) := q ▸ h

theorem lookup_mem {x : Str} {v : AV} : ∀ {l : List (Str × AV)}, l.lookup x = some v → (x, v) ∈ l
  | [], e => by cases e
  | (y, u) :: r, e => by
    rw [List.lookup_cons] at e
    cases hb : x == y with
    | true => rw [hb] at e; cases e; rw [eq_of_beq hb]; exact .head _
    | false => rw [hb] at e; exact .tail _ (lookup_mem e)
theorem Ss.weak {G : GX} {X : FX} {σ τ : AS} {b : List Stmt} {R : Fl → AS → Prop} (h : Ss G X τ b R) (hm : ∀ p ∈ τ.m, σ.m.lookup p.1 = some p.2) (hH : Sub τ.H σ.H) : Ss G X σ b R :=
  h.pre (fun x v e => hm (x, v) (lookup_mem e)) hH
/-- the names that a state is to know -/
def Cov (σ : AS) (m : List (Str × AV)) (H : AH) : Prop := (∀ p ∈ m, σ.m.lookup p.1 = some p.2) ∧ Sub H σ.H
theorem Cov.ss {G : GX} {X : FX} {σ : AS} {m : List (Str × AV)} {H : AH} {b : List Stmt} {R : Fl → AS → Prop} (c : Cov σ m H) (h : Ss G X ⟨m, H⟩ b R) : Ss G X σ b R := h.weak c.1 c.2

local macro_rules | `(tactic| walk_at "cov") => `(tactic| first | exact List.forall_mem_nil _ | (refine List.forall_mem_cons.mpr ⟨rfl, ?_⟩; walk_at "cov"))
local macro_rules | `(tactic| walk_at "ev") => `(tactic| first
  | with_reducible exact Ev.lit
  | (with_reducible refine Ev.loc (by assumption) ?_ ?_ ?_) <;> rfl
  | ((with_reducible refine Ev.add ?_ ?_) <;> walk_at "ev")
  | ((with_reducible refine Ev.sub ?_ ?_) <;> walk_at "ev")
  | ((with_reducible refine Ev.neg ?_) <;> walk_at "ev")
  | ((with_reducible refine Ev.shr ?_ ?_) <;> walk_at "ev")
  | ((with_reducible refine Ev.bitlen ?_ ?_); (focus (walk_at "ev")); exact ⟨_, rfl⟩))

def DivPre (a b : Int) (n : Nat) : Prop := 0 < n ∧ n ≤ 1000000 ∧ 0 ≤ a ∧ (2 : Int) ^ (n - 1) ≤ b ∧ b < 2 ^ n ∧ a < 2 ^ n * b
def DivOut (σ : AS) (a b : Int) (R : AV → AH → Prop) : Prop := ∀ d, d ∉ σ.H.map (·.1) → R (.val (.ref d)) ((d, .tup [.int (a / b), .int (a % b)]) :: σ.H)

set_option maxHeartbeats 4000000
theorem d32_spec {G : GX} (Lb : Lib G) (h D : Nat) (hh : 0 < h) (hsz : h ≤ 1000000)
    (rec : ∀ X σ a b R, X.Ok G → DivPre a b h → X.dp + D < recursionLimit → DivOut σ a b R → CallS G X σ (.ref Lb.fDiv) [.int a, .int b, .int h] R)
    (X : FX) (σ : AS) (a12 a3 b b1 b2 : Int) (R : AV → AH → Prop) (ok : X.Ok G) (hd : X.dp + D + 1 < recursionLimit)
    (hb : b = b1 * 2 ^ h + b2) (hb1 : (2 : Int) ^ (h - 1) ≤ b1) (hb1' : b1 < 2 ^ h) (hb2 : 0 ≤ b2) (hb2' : b2 < 2 ^ h) (h3 : 0 ≤ a3) (h3' : a3 < 2 ^ h) (h12 : 0 ≤ a12) (hlt : a12 < b)
    (out : DivOut σ (a12 * 2 ^ h + a3) b R) : CallS G X σ (.ref Lb.fD32) [.int a12, .int a3, .int b, .int b1, .int b2, .int h] R := by
  obtain ⟨oc, od, osl, doc, pm, an, cdv, ct, e, hcd⟩ := Lb.hD32.obj
  refine CallS.def (names := [Str.ofString "a12", Str.ofString "a3", Str.ofString "b", Str.ofString "b1", Str.ofString "b2", Str.ofString "n"]) ok e hcd (by omega) rfl (fun ws h => ?_) ?_ (fun g L' st ok' => ?_) (by decide) rfl rfl rfl
  · match ws, h with
    | [_, _, _, _, _, _], _ => rfl
  · intro y hy
    simp only [List.mem_cons, List.not_mem_nil, or_false] at hy
    rcases hy with rfl | rfl | rfl | rfl | rfl | rfl <;> rfl
  · have hB := kbt_pos h
    have hdm := div_mod a12 (2 ^ h)
    have hml := emod_lt' (x := a12) hB
    have hmn := emod_nn (x := a12) hB
    have hb1p : 0 < b1 := Int.lt_of_lt_of_le (kbt_pos (h - 1)) hb1
    refine Ss.cons (St.mono (R := fun f τ => f = .next ∧ ∃ q r : Int, r * 2 ^ h + a3 - q * b2 = (a12 * 2 ^ h + a3) - q * b ∧ (a12 * 2 ^ h + a3) - q * b < b ∧ 0 ≤ r ∧ 0 ≤ q ∧ q ≤ 2 ^ h ∧ r < 2 ^ (2 * h) ∧
      Cov τ [(Str.ofString "q", .int q), (Str.ofString "r", .int r), (Str.ofString "a3", .int a3), (Str.ofString "b", .int b), (Str.ofString "b2", .int b2), (Str.ofString "n", .int h)] σ.H) ?_ ?_)
    · refine St.ite (c := decide (a12 / 2 ^ h = b1)) (Tst.cmp (by walk_at "ev") (by walk_at "ev") rfl) (fun hc => ?_) (fun hc => ?_)
      · have hc' : a12 / 2 ^ h = b1 := of_decide_eq_true hc
        refine Ss.cons (St.swap (names := [Str.ofString "q", Str.ofString "r"]) (Ex.tuple (R₁ := fun vs H => vs = [.int (1 * 2 ^ h - 1), .int (a12 - b1 * 2 ^ h + b1)] ∧ H = σ.H)
          (EvL.toX (EvL.cons (.sub (.shl (by walk_at "ev") (by walk_at "ev") ?_) .lit) (EvL.cons (.add (.sub (by walk_at "ev") (.shl (by walk_at "ev") (by walk_at "ev") ?_)) (by walk_at "ev")) EvL.nil)) ⟨rfl, rfl⟩)
          (R := fun v H => ∃ d, v = .val (.ref d) ∧ H = (d, .tup [.int (1 * 2 ^ h - 1), .int (a12 - b1 * 2 ^ h + b1)]) :: σ.H) ?_) ?_ rfl rfl)
        · have : intBits 1 = 1 := by decide
          omega
        · have : intBits b1 ≤ h := bits_of (by omega) hb1'
          omega
        · rintro vs H d ⟨rfl, rfl⟩ hd
          exact ⟨Nat.le_of_ble_eq_true rfl, d, rfl, rfl⟩
        · rintro v H ⟨d, rfl, rfl⟩
          refine ⟨d, _, rfl, .head _, rfl, ?_⟩
          refine Sns.name (Sn.loc ok' rfl) (Sns.name (Sn.loc ok' rfl) (Sns.nil (Ss.nil ⟨rfl, 2 ^ h - 1, a12 - b1 * 2 ^ h + b1, ?_⟩)))
          obtain ⟨m1, m2⟩ := d32_a hB h3' (hb ▸ hlt) hb2'
          rw [hc'] at hdm
          rw [← hb] at m1 m2
          have pw : (2 : Int) ^ (2 * h) = 2 ^ h * 2 ^ h := by rw [Nat.two_mul, Int.pow_add]
          have pw2 : (2 : Int) ^ h * 2 ≤ 2 ^ h * 2 ^ h := Int.mul_le_mul_of_nonneg_left (pow_ge2 hh) (by omega)
          refine ⟨m1, m2, by omega, by omega, by omega, by omega, ?_, Sub.tail⟩
          rw [Int.one_mul]
          walk_at "cov"
      · have hc' : a12 / 2 ^ h ≠ b1 := of_decide_eq_false hc
        have l1 : a12 / 2 ^ h ≤ b1 := by
          have : a12 / 2 ^ h < b1 + 1 := div_lt hB (by rw [Int.add_mul, Int.one_mul]; omega)
          omega
        have l2 : a12 < b1 * 2 ^ h := by
          have : (a12 / 2 ^ h + 1) * 2 ^ h ≤ b1 * 2 ^ h := Int.mul_le_mul_of_nonneg_right (by omega) (by omega)
          rw [Int.add_mul, Int.one_mul] at this
          omega
        refine Ss.cons (St.unpackT (R₁ := fun v H => ∃ d, v = .val (.ref d) ∧ H = (d, .tup [.int (a12 / b1), .int (a12 % b1)]) :: σ.H)
          (Ex.callK ok' (Ev.glob ok' rfl Lb.hDiv.ns rfl) Lb.hDiv.keep (EvL.toX (vs := [.int a12, .int b1, .int h]) (EvL.cons (by walk_at "ev") (EvL.cons (by walk_at "ev") (EvL.cons (by walk_at "ev") EvL.nil))) ?_) rfl rfl) ?_ rfl rfl rfl)
        · refine rec _ _ _ _ _ ok' ⟨hh, hsz, h12, hb1, hb1', by rw [Int.mul_comm]; exact l2⟩ (by show X.dp + 1 + D < _; omega) fun d hd => ⟨d, rfl, rfl⟩
        · rintro v H ⟨d, rfl, rfl⟩
          refine ⟨d, _, rfl, .head _, rfl, ?_⟩
          refine Sns.target (Sn.loc ok' rfl) (Sns.target (Sn.loc ok' rfl) (Sns.nil (Ss.nil ⟨rfl, a12 / b1, a12 % b1, ?_⟩)))
          have q0 : 0 ≤ a12 / b1 := div_nn h12 hb1p
          have r1 : a12 % b1 < b1 := emod_lt' hb1p
          obtain ⟨m1, m2⟩ := d32_b hB h3' (div_mod a12 b1) q0 r1 hb2
          rw [← hb] at m1 m2
          have q1 : a12 / b1 < 2 ^ h := div_lt hb1p (by rw [Int.mul_comm]; exact l2)
          have pw := pow_mono (m := h) (n := 2 * h) (by omega)
          exact ⟨m1, m2, emod_nn hb1p, q0, by omega, by omega, by walk_at "cov", Sub.tail⟩
    · rintro f τ ⟨rfl, q, r, e1, e2, hr0, hq0, hq1, hr1, hcov⟩
      show Ss _ _ _ _ _
      refine hcov.ss ?_
      have bq : intBits q ≤ h + 1 := bits_of hq0 (by rw [Int.pow_succ]; omega)
      have br : intBits r ≤ 2 * h := bits_of hr0 hr1
      have bb2 : intBits b2 ≤ h := bits_of hb2 hb2'
      refine Ss.cons (St.assign ok' rfl (.sub (.bor (.shl (by walk_at "ev") (by walk_at "ev") (by omega)) (by walk_at "ev") (or_shift hr0 h3 h3')) (.mul (by walk_at "ev") (by walk_at "ev") (IntMulOk.of_le bq bb2 (by omega)))) ?_ rfl)
      refine Cov.ss (m := [(Str.ofString "q", .int q), (Str.ofString "r", .int (a12 * 2 ^ h + a3 - q * b)), (Str.ofString "b", .int b)]) (H := σ.H) ⟨by rw [← e1]; walk_at "cov", Sub.refl _⟩ ?_
      refine Ss.cons (St.whileI (fun n τ => ∃ q r : Int, r = (a12 * 2 ^ h + a3) - q * b ∧ r < b ∧ n = (-r).toNat ∧ Cov τ [(Str.ofString "q", .int q), (Str.ofString "r", .int r), (Str.ofString "b", .int b)] σ.H) ?_ (-(a12 * 2 ^ h + a3 - q * b)).toNat ⟨q, _, rfl, e2, rfl, by walk_at "cov", Sub.refl _⟩)
      rintro n τ ⟨q, r, f1, f2, f3, c⟩
      refine ⟨decide (r < 0), ?_, fun hc => ?_, fun hc => ?_⟩
      · exact Tst.cmp (.loc ok' rfl (c.1 _ (.tail _ (.head _)))) .lit rfl
      · have hc' : r < 0 := of_decide_eq_true hc
        refine c.ss (Ss.cons (St.aug (c := q - 1) ok' rfl rfl .lit (fun _ _ _ _ _ h => P.isub_int h) (Ss.cons (St.aug (c := r + b) ok' rfl rfl (by walk_at "ev") (fun _ _ _ _ _ h => P.iadd_int h) (Ss.nil ⟨(-(r + b)).toNat, ?_, q - 1, r + b, ?_, by omega, rfl, by walk_at "cov", Sub.refl _⟩)))))
        · omega
        · rw [f1, Int.sub_mul, Int.one_mul]; omega
      · have hc' : ¬ r < 0 := of_decide_eq_false hc
        obtain ⟨g1, g2⟩ := div_end f1 (by omega) f2
        show Ss _ _ _ _ _
        refine c.ss (Ss.cons (St.retX (Ex.tuple (R₁ := fun vs H => vs = [.int q, .int r] ∧ H = σ.H) (EvL.toX (EvL.cons (by walk_at "ev") (EvL.cons (by walk_at "ev") EvL.nil)) ⟨rfl, rfl⟩)
          (R := fun v H => ∃ d, d ∉ σ.H.map (·.1) ∧ v = .val (.ref d) ∧ H = (d, .tup [.int q, .int r]) :: σ.H) ?_) ?_))
        · rintro vs H d ⟨rfl, rfl⟩ hd
          exact ⟨Nat.le_of_ble_eq_true rfl, d, hd, rfl, rfl⟩
        · rintro v H ⟨d, hd, rfl, rfl⟩
          show R _ _
          rw [g1, g2]
          exact out d hd

theorem div_short {G : GX} (Lb : Lib G) (X : FX) (σ : AS) (a b : Int) (n : Nat) (R : AV → AH → Prop) (ok : X.Ok G) (pre : DivPre a b n) (hs : ((intBits a : Nat) : Int) - n ≤ 4000) (hd : X.dp < recursionLimit) (out : DivOut σ a b R) :
    CallS G X σ (.ref Lb.fDiv) [.int a, .int b, .int n] R := by
  obtain ⟨hn0, hsz, ha, hb, hb', hab⟩ := pre
  obtain ⟨oc, od, osl, doc, pm, an, cdv, ct, e, hcd⟩ := Lb.hDiv.obj
  have hbp : 0 < b := Int.lt_of_lt_of_le (kbt_pos (n - 1)) hb
  refine CallS.def (names := [Str.ofString "a", Str.ofString "b", Str.ofString "n"]) ok e hcd hd rfl (fun ws h => ?_) ?_ (fun g L' st ok' => ?_) (by decide) rfl rfl rfl
  · match ws, h with
    | [_, _, _], _ => rfl
  · intro y hy
    simp only [List.mem_cons, List.not_mem_nil, or_false] at hy
    rcases hy with rfl | rfl | rfl <;> rfl
  · refine Ss.cons (St.ite (c := true) (Tst.cmp (a := ((intBits a : Nat) : Int) - (n : Int)) (b := 4000) (by walk_at "ev") (.glob ok' rfl Lb.hLim ⟨_, rfl⟩) (by simp only [cmpI]; rw [decide_eq_true hs])) (fun _ => ?_) nofun)
    refine Ss.cons (St.retX (R' := R) (Ex.callB (.bltn ok' rfl Lb.hdm rfl (by decide)) (EvL.toX (vs := [.int a, .int b]) (EvL.cons (by walk_at "ev") (EvL.cons (by walk_at "ev") EvL.nil)) (CallS.divmod hbp (noPylong hn0 ha hb hs) out)) rfl rfl) fun v H r => r)
theorem div_spec {G : GX} (Lb : Lib G) : ∀ (k : Nat) (X : FX) (σ : AS) (a b : Int) (n : Nat) (R : AV → AH → Prop), X.Ok G → n ≤ 2 ^ k → DivPre a b n → X.dp + 2 * k < recursionLimit → DivOut σ a b R →
    CallS G X σ (.ref Lb.fDiv) [.int a, .int b, .int n] R := by
  intro k
  induction k with
  | zero =>
    intro X σ a b n R ok hn pre hd out
    have hn1 : n = 1 := by have := pre.1; omega
    refine div_short Lb X σ a b n R ok pre ?_ (by omega) out
    obtain ⟨hn0, hsz, ha, hb, hb', hab⟩ := pre
    subst hn1
    have : intBits a ≤ 2 := bits_of ha (by omega)
    omega
  | succ k ih =>
    intro X σ a b n R ok hn pre hd out
    by_cases hs : ((intBits a : Nat) : Int) - n ≤ 4000
    · exact div_short Lb X σ a b n R ok pre hs (by omega) out
    · obtain ⟨hn0, hsz, ha, hb, hb', hab⟩ := pre
      obtain ⟨oc, od, osl, doc, pm, an, cdv, ct, e, hcd⟩ := Lb.hDiv.obj
      have hbp : 0 < b := Int.lt_of_lt_of_le (kbt_pos (n - 1)) hb
      obtain ⟨h, p, hp, hnp⟩ : ∃ h p : Nat, p = n % 2 ∧ n + p = 2 * h := ⟨(n + n % 2) / 2, n % 2, rfl, by omega⟩
      have hh : 0 < h := by omega
      have hk : h ≤ 2 ^ k := by rw [Nat.pow_succ] at hn; omega
      obtain ⟨a', ea'⟩ : ∃ a', a' = a * 2 ^ p := ⟨_, rfl⟩
      obtain ⟨b', eb'⟩ : ∃ b', b' = b * 2 ^ p := ⟨_, rfl⟩
      have hP := kbt_pos p
      have hB := kbt_pos h
      have ha' : 0 ≤ a' := by rw [ea']; exact Int.mul_nonneg ha (by omega)
      have w1 : (2 : Int) ^ (n - 1) * 2 ^ p = 2 ^ (2 * h - 1) := by rw [← Int.pow_add]; congr 1; omega
      have w2 : (2 : Int) ^ n * 2 ^ p = 2 ^ (2 * h) := by rw [← Int.pow_add]; congr 1
      have w3 : (2 : Int) ^ (2 * h) = 2 ^ h * 2 ^ h := by rw [Nat.two_mul, Int.pow_add]
      have w4 : (2 : Int) ^ (h - 1) * 2 ^ h = 2 ^ (2 * h - 1) := by rw [← Int.pow_add]; congr 1; omega
      have c1 : (2 : Int) ^ (2 * h - 1) ≤ b' := by rw [eb', ← w1]; exact Int.mul_le_mul_of_nonneg_right hb (by omega)
      have c2 : b' < 2 ^ (2 * h) := by rw [eb', ← w2]; exact Int.mul_lt_mul_of_pos_right hb' hP
      have hbp' : 0 < b' := by rw [eb']; exact Int.mul_pos hbp hP
      have c3 : a' < 2 ^ (2 * h) * b' := by
        have l1 : a * 2 ^ p < 2 ^ n * b * 2 ^ p := Int.mul_lt_mul_of_pos_right hab hP
        have l2 : (2 : Int) ^ n * b * 2 ^ p = 2 ^ n * b' := by rw [eb', Int.mul_assoc]
        have l3 : (2 : Int) ^ n * b' ≤ 2 ^ (2 * h) * b' := Int.mul_le_mul_of_nonneg_right (pow_mono (by omega)) (by omega)
        rw [ea']
        omega
      have bb : intBits b ≤ n := bits_of (by omega) hb'
      have ba : intBits a ≤ 2 * n := bits_of ha (by
        have l : (2 : Int) ^ n * b < 2 ^ n * 2 ^ n := Int.mul_lt_mul_of_pos_left hb' (kbt_pos n)
        rw [Nat.two_mul, Int.pow_add]
        omega)
      refine CallS.def (names := [Str.ofString "a", Str.ofString "b", Str.ofString "n"]) ok e hcd (by omega) rfl (fun ws h => ?_) ?_ (fun g L' st ok' => ?_) (by decide) rfl rfl rfl
      · match ws, h with
        | [_, _, _], _ => rfl
      · intro y hy
        simp only [List.mem_cons, List.not_mem_nil, or_false] at hy
        rcases hy with rfl | rfl | rfl <;> rfl
      refine Ss.cons (St.ite (c := false) (Tst.cmp (a := ((intBits a : Nat) : Int) - (n : Int)) (b := 4000) (by walk_at "ev") (.glob ok' rfl Lb.hLim ⟨_, rfl⟩) (by simp only [cmpI]; rw [decide_eq_false hs])) nofun (fun _ => ?_))
      refine Ss.nil ?_
      refine Ss.cons (St.assign (v := .int (p : Int)) ok' rfl (.band (by walk_at "ev") .lit (by rw [bitAnd_m1]; omega)) ?_ rfl)
      refine Ss.cons (St.mono (R := fun f τ => f = .next ∧ Cov τ [(Str.ofString "a", .int a'), (Str.ofString "b", .int b'), (Str.ofString "n", .int ((2 * h : Nat) : Int)), (Str.ofString "pad", .int (p : Int))] σ.H) ?_ ?_)
      · refine St.ite (c := decide ((p : Int) ≠ 0)) (Tst.int (by walk_at "ev")) (fun hc => ?_) (fun hc => ?_)
        · have hc' : p = 1 := by have := of_decide_eq_true hc; omega
          subst hc'
          refine Ss.cons (St.aug (c := a') ok' rfl rfl .lit (fun _ _ _ _ _ h => ilshift_int (by decide) (by omega) (by rw [ea'] at h; exact h)) ?_)
          refine Ss.cons (St.aug (c := b') ok' rfl rfl .lit (fun _ _ _ _ _ h => ilshift_int (by decide) (by omega) (by rw [eb'] at h; exact h)) ?_)
          refine Ss.cons (St.aug (c := ((2 * h : Nat) : Int)) ok' rfl rfl .lit (fun _ _ _ _ _ h => P.iadd_int (by rw [← hnp] at h; exact h)) ?_)
          exact Ss.nil ⟨rfl, by walk_at "cov", Sub.refl _⟩
        · have hc' : p = 0 := by have := of_decide_eq_false hc; omega
          subst hc'
          have e1 : a' = a := by omega
          have e2 : b' = b := by omega
          have e3 : 2 * h = n := by omega
          refine Ss.nil ⟨rfl, ?_, Sub.refl _⟩
          rw [e1, e2, e3]
          walk_at "cov"
      rintro f τ ⟨rfl, c⟩
      show Ss _ _ _ _ _
      refine c.ss ?_
      refine Ss.cons (St.assign (v := .int (h : Int)) ok' rfl (Ev.cast (.shr (n := 1) (by walk_at "ev") .lit) (by omega)) ?_ rfl)
      refine Ss.cons (St.assign (v := .int (2 ^ h - 1)) ok' rfl (Ev.cast (.sub (.shl (n := h) .lit (by walk_at "ev") (by have := bits1; omega)) .lit) (by omega)) ?_ rfl)
      refine Ss.cons (St.swap (names := [Str.ofString "b1", Str.ofString "b2"]) (Ex.tuple (R₁ := fun vs H => vs = [.int (b' / 2 ^ h), .int (b' % 2 ^ h)] ∧ H = σ.H)
        (EvL.toX (EvL.cons (.shr (n := h) (by walk_at "ev") (by walk_at "ev")) (EvL.cons (.band (by walk_at "ev") (by walk_at "ev") (kbt_mask _ _)) EvL.nil)) ⟨rfl, rfl⟩)
        (R := fun v H => ∃ d, v = .val (.ref d) ∧ H = (d, .tup [.int (b' / 2 ^ h), .int (b' % 2 ^ h)]) :: σ.H) ?_) ?_ rfl rfl)
      · rintro vs H d ⟨rfl, rfl⟩ hd
        exact ⟨Nat.le_of_ble_eq_true rfl, d, rfl, rfl⟩
      rintro v H ⟨d, rfl, rfl⟩
      refine ⟨d, _, rfl, .head _, rfl, ?_⟩
      refine Sns.name (Sn.loc ok' rfl) (Sns.name (Sn.loc ok' rfl) (Sns.nil ?_))
      show Ss _ _ _ _ _
      refine Cov.ss (m := [(Str.ofString "a", .int a'), (Str.ofString "b", .int b'), (Str.ofString "n", .int ((2 * h : Nat) : Int)), (Str.ofString "pad", .int (p : Int)), (Str.ofString "half_n", .int (h : Int)), (Str.ofString "mask", .int (2 ^ h - 1)), (Str.ofString "b1", .int (b' / 2 ^ h)), (Str.ofString "b2", .int (b' % 2 ^ h))]) (H := σ.H)
        ⟨by walk_at "cov", Sub.tail⟩ ?_
      obtain ⟨d1, d2, d3, d4, d5⟩ := d21 (a := a') (b := b') (B := 2 ^ h) hB hbp' ha'
      have k1 : 0 ≤ a' / 2 ^ h := div_nn ha' hB
      have k2 : a' / 2 ^ (2 * h) = a' / 2 ^ h / 2 ^ h := by rw [w3, Int.ediv_ediv_of_nonneg (by omega)]
      have k3 : a' / 2 ^ (2 * h) * 2 ^ h + a' / 2 ^ h % 2 ^ h = a' / 2 ^ h := by rw [k2]; exact (div_mod _ _).symm
      have k4 : 0 ≤ a' / 2 ^ (2 * h) := div_nn ha' (kbt_pos _)
      have k5 : a' / 2 ^ (2 * h) < b' := div_lt (kbt_pos _) (by rw [Int.mul_comm]; exact c3)
      have e1 : (2 : Int) ^ (h - 1) ≤ b' / 2 ^ h := Int.le_ediv_of_mul_le hB (by omega)
      have e2 : b' / 2 ^ h < 2 ^ h := div_lt hB (by omega)
      have dp' : ∀ x, x + 2 * k + 2 ≤ x + 2 * (k + 1) := fun x => by omega
      refine Ss.cons (St.unpackT (R₁ := fun v H => ∃ d, v = .val (.ref d) ∧ H = (d, .tup [.int (a' / 2 ^ h / b'), .int (a' / 2 ^ h % b')]) :: σ.H)
        (Ex.callK ok' (Ev.glob ok' rfl Lb.hD32.ns rfl) Lb.hD32.keep (EvL.toX (vs := [.int (a' / 2 ^ (2 * h)), .int (a' / 2 ^ h % 2 ^ h), .int b', .int (b' / 2 ^ h), .int (b' % 2 ^ h), .int (h : Int)])
          (EvL.cons (by walk_at "ev") (EvL.cons (.band (.shr (n := h) (by walk_at "ev") (by walk_at "ev")) (by walk_at "ev") (kbt_mask _ _)) (EvL.cons (by walk_at "ev") (EvL.cons (by walk_at "ev") (EvL.cons (by walk_at "ev") (EvL.cons (by walk_at "ev") EvL.nil)))))) ?_) rfl rfl) ?_ rfl rfl rfl)
      · refine d32_spec Lb h (2 * k) hh (by omega) (fun X σ a b R ok pre hd out => ih X σ a b h R ok hk pre hd out) _ _ _ _ _ _ _ _ ok' (by show X.dp + 1 + 2 * k + 1 < _; omega) (div_mod _ _) e1 e2 (emod_nn hB) (emod_lt' hB) (emod_nn hB) (emod_lt' hB) k4 k5 ?_
        rw [k3]
        exact fun d hd => ⟨d, rfl, rfl⟩
      rintro v H ⟨d, rfl, rfl⟩
      refine ⟨d, _, rfl, .head _, rfl, ?_⟩
      refine Sns.target (Sn.loc ok' rfl) (Sns.target (Sn.loc ok' rfl) (Sns.nil ?_))
      show Ss _ _ _ _ _
      refine Cov.ss (m := [(Str.ofString "a", .int a'), (Str.ofString "b", .int b'), (Str.ofString "pad", .int (p : Int)), (Str.ofString "half_n", .int (h : Int)), (Str.ofString "mask", .int (2 ^ h - 1)), (Str.ofString "b1", .int (b' / 2 ^ h)), (Str.ofString "b2", .int (b' % 2 ^ h)), (Str.ofString "q1", .int (a' / 2 ^ h / b')), (Str.ofString "r", .int (a' / 2 ^ h % b'))]) (H := σ.H)
        ⟨by walk_at "cov", Sub.tail⟩ ?_
      refine Ss.cons (St.unpackT (R₁ := fun v H => ∃ d, v = .val (.ref d) ∧ H = (d, .tup [.int ((a' / 2 ^ h % b' * 2 ^ h + a' % 2 ^ h) / b'), .int ((a' / 2 ^ h % b' * 2 ^ h + a' % 2 ^ h) % b')]) :: σ.H)
        (Ex.callK ok' (Ev.glob ok' rfl Lb.hD32.ns rfl) Lb.hD32.keep (EvL.toX (vs := [.int (a' / 2 ^ h % b'), .int (a' % 2 ^ h), .int b', .int (b' / 2 ^ h), .int (b' % 2 ^ h), .int (h : Int)])
          (EvL.cons (by walk_at "ev") (EvL.cons (.band (by walk_at "ev") (by walk_at "ev") (kbt_mask _ _)) (EvL.cons (by walk_at "ev") (EvL.cons (by walk_at "ev") (EvL.cons (by walk_at "ev") (EvL.cons (by walk_at "ev") EvL.nil)))))) ?_) rfl rfl) ?_ rfl rfl rfl)
      · exact d32_spec Lb h (2 * k) hh (by omega) (fun X σ a b R ok pre hd out => ih X σ a b h R ok hk pre hd out) _ _ _ _ _ _ _ _ ok' (by show X.dp + 1 + 2 * k + 1 < _; omega) (div_mod _ _) e1 e2 (emod_nn hB) (emod_lt' hB) (emod_nn hB) (emod_lt' hB) (emod_nn hbp') (emod_lt' hbp') fun d hd => ⟨d, rfl, rfl⟩
      rintro v H ⟨d, rfl, rfl⟩
      refine ⟨d, _, rfl, .head _, rfl, ?_⟩
      refine Sns.target (Sn.loc ok' rfl) (Sns.target (Sn.loc ok' rfl) (Sns.nil ?_))
      show Ss _ _ _ _ _
      rw [← d2]
      have q1b : intBits (a' / 2 ^ h / b') ≤ h := bits_of d3 (div_lt hbp' (div_lt hB (by rw [Int.mul_assoc, Int.mul_comm b', ← Int.mul_assoc, ← w3]; exact c3)))
      refine Cov.ss (m := [(Str.ofString "pad", .int (p : Int)), (Str.ofString "half_n", .int (h : Int)), (Str.ofString "q1", .int (a' / 2 ^ h / b')), (Str.ofString "q2", .int ((a' / 2 ^ h % b' * 2 ^ h + a' % 2 ^ h) / b')), (Str.ofString "r", .int (a' % b'))]) (H := σ.H)
        ⟨by walk_at "cov", Sub.tail⟩ ?_
      refine Ss.cons (St.mono (R := fun f τ => f = .next ∧ Cov τ [(Str.ofString "half_n", .int (h : Int)), (Str.ofString "q1", .int (a' / 2 ^ h / b')), (Str.ofString "q2", .int ((a' / 2 ^ h % b' * 2 ^ h + a' % 2 ^ h) / b')), (Str.ofString "r", .int (a % b))] σ.H) ?_ ?_)
      · refine St.ite (c := decide ((p : Int) ≠ 0)) (Tst.int (by walk_at "ev")) (fun hc => ?_) (fun hc => ?_)
        · have hc' : p = 1 := by have := of_decide_eq_true hc; omega
          subst hc'
          have dp := (div_pad a b hbp).2
          have e5 : a' % b' / 2 = a % b := by rw [ea', eb']; exact dp
          refine Ss.cons (St.aug (c := a % b) ok' rfl rfl .lit (fun s Q E t u h => irshift_nat (n := 1) (by rw [← e5] at h; exact h)) ?_)
          · exact Ss.nil ⟨rfl, by walk_at "cov", Sub.refl _⟩
        · have hc' : p = 0 := by have := of_decide_eq_false hc; omega
          subst hc'
          have e1 : a' = a := by omega
          have e2 : b' = b := by omega
          refine Ss.nil ⟨rfl, ?_, Sub.refl _⟩
          rw [← e1, ← e2]
          walk_at "cov"
      rintro f τ ⟨rfl, c⟩
      show Ss _ _ _ _ _
      refine c.ss ?_
      have e6 : a' / b' = a / b := by
        rcases Nat.mod_two_eq_zero_or_one n with q | q
        · rw [q] at hp; subst hp; rw [ea', eb']; simp
        · rw [q] at hp; subst hp; rw [ea', eb']; exact (div_pad a b hbp).1
      refine Ss.cons (St.retX (Ex.tuple (R₁ := fun vs H => vs = [.int (a / b), .int (a % b)] ∧ H = σ.H) (EvL.toX (EvL.cons (.bor (.shl (n := h) (by walk_at "ev") (by walk_at "ev") (by omega)) (by walk_at "ev") (by rw [or_shift d3 d4 d5, ← d1, e6])) (EvL.cons (by walk_at "ev") EvL.nil)) ⟨rfl, rfl⟩)
          (R := fun v H => ∃ d, d ∉ σ.H.map (·.1) ∧ v = .val (.ref d) ∧ H = (d, .tup [.int (a / b), .int (a % b)]) :: σ.H) ?_) ?_)
      · rintro vs H d ⟨rfl, rfl⟩ hd
        exact ⟨Nat.le_of_ble_eq_true rfl, d, hd, rfl, rfl⟩
      · rintro v H ⟨d, hd, rfl, rfl⟩
        exact out d hd
end Mine
namespace Mine
open PySem PySem.W PyProof.Rows PySem.Spec PySem.Calls
open PySem.Builtin.Int (intBits)
local macro_rules | `(tactic| walk_at "cov") => `(tactic| first | exact List.forall_mem_nil _ | (refine List.forall_mem_cons.mpr ⟨rfl, ?_⟩; walk_at "cov"))
local macro_rules | `(tactic| walk_at "ev") => `(tactic| first
  | with_reducible exact Ev.lit
  | (with_reducible refine Ev.loc (by assumption) ?_ ?_ ?_) <;> rfl
  | ((with_reducible refine Ev.add ?_ ?_) <;> walk_at "ev")
  | ((with_reducible refine Ev.sub ?_ ?_) <;> walk_at "ev")
  | ((with_reducible refine Ev.neg ?_) <;> walk_at "ev")
  | ((with_reducible refine Ev.shr ?_ ?_) <;> walk_at "ev")
  | ((with_reducible refine Ev.bitlen ?_ ?_); (focus (walk_at "ev")); exact ⟨_, rfl⟩))

def stmtIn (b : List Stmt) (i : Nat) : Option (Arguments × List Stmt × Scope × Pos) := match b[i]? with
  | some (.FunctionDef _ a b _ _ _ sc _ _ ps) => some (a, b, sc, ps)
  | _ => none
def bodyIn (b : List Stmt) (i : Nat) : List Stmt := match stmtIn b i with | some (_, b, _, _) => b | none => []
def argsIn (b : List Stmt) (i : Nat) : Arguments := match stmtIn b i with | some (a, _, _, _) => a | none => default
def scopeIn (b : List Stmt) (i : Nat) : Scope := match stmtIn b i with | some (_, _, s, _) => s | none => default
def posIn (b : List Stmt) (i : Nat) : Pos := match stmtIn b i with | some (_, _, _, p) => p | none => default
abbrev qInt : Str := Str.ofString "_int2digits" ++ ".<locals>." ++ Str.ofString "inner"

theorem small_mul {a b : Int} (h0 : 0 ≤ a) (h : a < 2 ^ 62) : IntMulOk a b := IntMulOk.of_left (bits_of (m := 64) h0 (by omega))

set_option maxHeartbeats 4000000
/-- the digits' own walk: a place of the row is filled -/
theorem innerI_spec {G : GX} (n : Nat) (hn : 0 < n) (fi c' cA cI cN D : Addr) (doc pm ctv : Value) (pre post : AH)
    (hf : (fi, fnOb (Str.ofString "inner") qInt (argsIn (bodyAt thePw 4) 1) (bodyIn (bodyAt thePw 4) 1) (scopeIn (bodyAt thePw 4) 1) [(Str.ofString "n", cN), (Str.ofString "inner", cI), (Str.ofString "a_digits", cA)] doc pm c' ctv) ∈ pre ++ post)
    (hc : (c', AO.code qInt) ∈ pre ++ post) (hA : (cA, AO.cell (some (.val (.ref D)))) ∈ pre ++ post) (hI : (cI, AO.cell (some (.val (.ref fi)))) ∈ pre ++ post) (hN : (cN, AO.cell (some (.int n))) ∈ pre ++ post) :
    ∀ (k : Nat) (X : FX) (m : List (Str × AV)) (x : Int) (L R : Nat) (vs : List Int) (Rr : AV → AH → Prop), X.Ok G → L < R → R - L ≤ 2 ^ k → R ≤ vs.length → vs.length < 2 ^ 24 → n * vs.length ≤ 2 ^ 25 → 0 ≤ x → x < 2 ^ (n * (R - L)) → X.dp + k < recursionLimit →
      Rr (.val .none) (pre ++ (D, .list (il (fillD vs L (dig n x (R - L))))) :: post) → CallS G X ⟨m, pre ++ (D, .list (il vs)) :: post⟩ (.ref fi) [.int x, .int L, .int R] Rr := by
  have up : ∀ (p : Addr × AO) (d : Addr × AO), p ∈ pre ++ post → p ∈ pre ++ d :: post := fun p d h => (List.mem_append.mp h).elim (List.mem_append_left _) fun q => List.mem_append_right _ (.tail _ q)
  have leaf : ∀ (X : FX) (m : List (Str × AV)) (x : Int) (L R : Nat) (vs : List Int) (Rr : AV → AH → Prop), X.Ok G → L + 1 = R → R ≤ vs.length → vs.length < 2 ^ 24 → 0 ≤ x → x < 2 ^ (n * (R - L)) → X.dp < recursionLimit →
      Rr (.val .none) (pre ++ (D, .list (il (fillD vs L (dig n x (R - L))))) :: post) → CallS G X ⟨m, pre ++ (D, .list (il vs)) :: post⟩ (.ref fi) [.int x, .int L, .int R] Rr := by
    intro X m x L R vs Rr ok hLR hR hv hx0 hx hd out
    refine CallS.func (names := [Str.ofString "x", Str.ofString "L", Str.ofString "R"]) (fo := fnMade _ _ _ _ _ _ doc pm c' ctv) ok (fun h ha => ⟨ha.objAt (up _ _ hf), ?_⟩) rfl (by omega) rfl (fun ws h => ?_) ?_ (fun g L' st ok' => ?_) (by decide) rfl rfl rfl
    · obtain ⟨o, e1, ⟨us, t, e2, e3⟩, _⟩ := ha.hp _ (up _ (D, .list (il vs)) hc)
      exact ⟨c', o, us, t, rfl, e1, e2, e3⟩
    · match ws, h with
      | [_, _, _], _ => rfl
    · intro y hy
      simp only [List.mem_cons, List.not_mem_nil, or_false] at hy
      rcases hy with rfl | rfl | rfl <;> rfl
    have hone : R - L = 1 := by omega
    rw [hone, Nat.mul_one] at hx
    rw [hone, dig_one n x hx0 hx, ← fillD_one (by omega)] at out
    refine Ss.cons (St.ite (c := true) (Tst.cmp (a := (L : Int) + 1) (b := (R : Int)) (by walk_at "ev") (by walk_at "ev") (by simp only [cmpI]; rw [decide_eq_true (by omega)])) (fun _ => ?_) nofun)
    refine Ss.cons (St.setItem (pre := pre) (post := post) (v := .int x) (k := L) (d := D) (vs := il vs) (by walk_at "ev") (.free ok' rfl rfl (up _ _ hA)) (by walk_at "ev") rfl (by simp; omega) (by omega) ?_ rfl)
    refine Ss.cons (St.retN ?_)
    show Rr (.val .none) _
    rw [← List.map_set]
    exact out
  intro k
  induction k with
  | zero =>
    intro X m x L R vs Rr ok hLR hk hR hv hnv hx0 hx hd out
    exact leaf X m x L R vs Rr ok (by omega) hR hv hx0 hx (by omega) out
  | succ k ih =>
    intro X m x L R vs Rr ok hLR hk hR hv hnv hx0 hx hd out
    by_cases hone : L + 1 = R
    · exact leaf X m x L R vs Rr ok hone hR hv hx0 hx (by omega) out
    refine CallS.func (names := [Str.ofString "x", Str.ofString "L", Str.ofString "R"]) (fo := fnMade _ _ _ _ _ _ doc pm c' ctv) ok (fun h ha => ⟨ha.objAt (up _ _ hf), ?_⟩) rfl (by omega) rfl (fun ws h => ?_) ?_ (fun g L' st ok' => ?_) (by decide) rfl rfl rfl
    · obtain ⟨o, e1, ⟨us, t, e2, e3⟩, _⟩ := ha.hp _ (up _ (D, .list (il vs)) hc)
      exact ⟨c', o, us, t, rfl, e1, e2, e3⟩
    · match ws, h with
      | [_, _, _], _ => rfl
    · intro y hy
      simp only [List.mem_cons, List.not_mem_nil, or_false] at hy
      rcases hy with rfl | rfl | rfl <;> rfl
    obtain ⟨M, hM⟩ : ∃ M, M = (L + R) / 2 := ⟨_, rfl⟩
    have h1 : L < M := by omega
    have h2 : M < R := by omega
    have k1 : M - L ≤ 2 ^ k := by rw [Nat.pow_succ] at hk; omega
    have k2 : R - M ≤ 2 ^ k := by rw [Nat.pow_succ] at hk; omega
    have bnd : n * (R - L) ≤ 2 ^ 25 := Nat.le_trans (Nat.mul_le_mul_left n (by omega)) hnv
    have bnd2 : (M - L) * n ≤ 2 ^ 25 := by
      rw [Nat.mul_comm]
      exact Nat.le_trans (Nat.mul_le_mul_left n (by omega)) bnd
    have e0 : n * (R - L) = (M - L) * n + n * (R - M) := by rw [Nat.mul_comm (M - L) n, ← Nat.mul_add]; congr 1; omega
    have u0 : 0 ≤ x / 2 ^ ((M - L) * n) := div_nn hx0 (kbt_pos _)
    have u1 : x / 2 ^ ((M - L) * n) < 2 ^ (n * (R - M)) := div_lt (kbt_pos _) (by rw [← Int.pow_add, Nat.add_comm, ← e0]; exact hx)
    have bits : intBits (x / 2 ^ ((M - L) * n)) ≤ n * (R - M) := bits_of u0 u1
    refine Ss.cons (St.ite (c := false) (Tst.cmp (a := (L : Int) + 1) (b := (R : Int)) (by walk_at "ev") (by walk_at "ev") (by simp only [cmpI]; rw [decide_eq_false (by omega)])) nofun (fun _ => Ss.nil ?_))
    refine Ss.cons (St.assign (v := .int (M : Int)) ok' rfl (Ev.cast (.shr (n := 1) (a := (L : Int) + R) (by walk_at "ev") .lit) (by omega)) ?_ rfl)
    refine Ss.cons (St.assign (v := .int (((M - L) * n : Nat) : Int)) ok' rfl (Ev.cast (.mul (a := (M : Int) - L) (b := (n : Int)) (by walk_at "ev") (.free ok' rfl rfl (up _ _ hN)) (small_mul (by omega) (by omega))) (by rw [Int.natCast_mul, Int.natCast_sub (by omega)])) ?_ rfl)
    refine Ss.cons (St.assign (v := .int (x / 2 ^ ((M - L) * n))) ok' rfl (.shr (by walk_at "ev") (by walk_at "ev")) ?_ rfl)
    refine Ss.cons (St.assign (v := .int (x % 2 ^ ((M - L) * n))) ok' rfl (.bxor (by walk_at "ev") (.shl (by walk_at "ev") (by walk_at "ev") (by omega)) (xor_low x _ hx0)) ?_ rfl)
    have fnat : ∀ (X' : FX) (σ : AS) (d : Addr × AO), σ.H = pre ++ d :: post → ∀ h, At X' σ h → FnAt fi h := fun X' σ d e h ha => ⟨_, _, _, _, ha.objAt (by rw [e]; exact up _ _ hf)⟩
    refine Ss.cons (St.expr (R' := fun v H => H = pre ++ (D, .list (il (fillD vs L (dig n (x % 2 ^ ((M - L) * n)) (M - L))))) :: post)
      (Ex.callF (vs := [.int (x % 2 ^ ((M - L) * n)), .int (L : Int), .int (M : Int)]) (.free ok' rfl rfl (up _ _ hI)) (fnat _ _ _ rfl) (EvL.cons (by walk_at "ev") (EvL.cons (by walk_at "ev") (EvL.cons (by walk_at "ev") EvL.nil)))
        (ih _ _ _ L M vs _ ok' h1 k1 (by omega) hv hnv (emod_nn (kbt_pos _)) (by rw [Nat.mul_comm n]; exact emod_lt' (kbt_pos _)) (by show X.dp + 1 + k < _; omega) rfl) rfl rfl) ?_ rfl rfl)
    rintro v H rfl
    have hl1 : (fillD vs L (dig n (x % 2 ^ ((M - L) * n)) (M - L))).length = vs.length := fillD_length (by rw [dig_length]; omega)
    refine Ss.cons (St.expr (R' := fun v H => H = pre ++ (D, .list (il (fillD vs L (dig n x (R - L))))) :: post)
      (Ex.callF (vs := [.int (x / 2 ^ ((M - L) * n)), .int (M : Int), .int (R : Int)]) (.free ok' rfl rfl (up _ _ hI)) (fnat _ _ _ rfl) (EvL.cons (by walk_at "ev") (EvL.cons (by walk_at "ev") (EvL.cons (by walk_at "ev") EvL.nil)))
        (ih _ _ _ M R _ _ ok' h2 k2 (by rw [hl1]; omega) (by rw [hl1]; exact hv) (by rw [hl1]; exact hnv) u0 u1 (by show X.dp + 1 + k < _; omega) ?_) rfl rfl) ?_ rfl rfl)
    · have e1 := fillD_two (vs := vs) (L := L) (ds := dig n (x % 2 ^ ((M - L) * n)) (M - L)) (es := dig n (x / 2 ^ ((M - L) * n)) (R - M)) (by rw [dig_length, dig_length]; omega)
      rw [dig_length, show L + (M - L) = M from by omega, Nat.mul_comm (M - L) n, ← dig_split, show M - L + (R - M) = R - L from by omega] at e1
      rw [Nat.mul_comm (M - L) n, e1]
    · rintro v H rfl
      exact Ss.nil out

/-- the digits of a number that is not below nought -/
def i2d (n : Nat) (a : Int) : List Int := dig n a ((intBits a + n - 1) / n)
theorem i2d_enough {n : Nat} {a : Int} (hn : 0 < n) (ha : 0 ≤ a) : a < 2 ^ (n * ((intBits a + n - 1) / n)) := by
  refine Int.lt_of_lt_of_le (lt_of_bits (Nat.le_refl _)) (pow_mono ?_)
  have := Nat.div_add_mod (intBits a + n - 1) n
  have := Nat.mod_lt (intBits a + n - 1) hn
  omega
/-- a def that makes a def: its code and the table of it -/
structure HasC (G : GX) (i : Nat) (nm : Str) (f : Addr) (t : TI) : Prop where
  ns : nsIn G.K mainGlobals nm = some (some (.ref f))
  obj : ∃ oc od osl doc pm an ct, G.K.lookup f = some ⟨oc, od, .func (fnX nm nm (argsAt thePw i) (bodyAt thePw i) (scopeAt thePw i) [] .none .none doc pm an (.ref t.c) ct), osl⟩
  cd : codeIn G.K (.ref t.c) nm = true
  hd : codeHdIn G.K t.c t.P = true
  qual : t.qual = nm ++ ".<locals>." ++ Str.ofString "inner"
  line : t.line = (posIn (bodyAt thePw i) (if i = 4 then 1 else 0)).line
  col : t.col = (posIn (bodyAt thePw i) (if i = 4 then 1 else 0)).col
theorem HasC.keep {G : GX} {i : Nat} {nm : Str} {f : Addr} {t : TI} (h : HasC G i nm f t) : keepIn G.K (.ref f) = true := by
  obtain ⟨_, _, _, _, _, _, _, e⟩ := h.obj
  unfold keepIn
  simp only
  rw [e]
structure LibI (G : GX) (ts : List TI) where
  fI : Addr
  t : TI
  ht : t ∈ ts
  hI : HasC G 4 (Str.ofString "_int2digits") fI t
  hlen : nsIn G.K mainGlobals (Str.ofString "len") = some none

theorem noPy {a b : Int} (h : b.natAbs < 2 ^ 62) : Builtin.divisionGoesByPylong a b = false := by
  unfold Builtin.divisionGoesByPylong
  have : ¬ ((if b == 0 then 0 else b.natAbs.log2 / 30 + 1) > 300) := by
    split
    · omega
    · rename_i hb
      have hb' : b.natAbs ≠ 0 := by simp at hb; omega
      have := (Nat.log2_lt hb').mpr h
      omega
  simp only [decide_eq_false this, Bool.false_and]

theorem flat_one (x : Int) : ∀ k : Nat, (List.replicate k [AV.int x]).flatten = il (List.replicate k x)
  | 0 => rfl
  | k + 1 => by rw [List.replicate_succ, List.flatten_cons, flat_one x k, List.replicate_succ]; rfl
theorem i2d_spec {G : GX} {ts : List TI} (Lb : LibI G ts) (X : FX) (m : List (Str × AV)) (a : Int) (n K : Nat) (T H₀ : AH) (R : AV → AH → Prop) (ok : X.Ok G) (ha : 0 ≤ a) (hn : 0 < n) (hsz : n ≤ 1000000) (hb : intBits a ≤ 2 ^ 22) (hK : (intBits a + n - 1) / n ≤ 2 ^ K) (hd : X.dp + K + 1 < recursionLimit)
    (hT : TabsOk ts T) (out : ∀ T' d, TabsOk ts T' → R (.val (.ref d)) (T' ++ (d, .list (il (i2d n a))) :: H₀)) : CallS G X ⟨m, T ++ H₀⟩ (.ref Lb.fI) [.int a, .int n] R := by
  obtain ⟨oc, od, osl, doc, pm, an, ct, e⟩ := Lb.hI.obj
  obtain ⟨k, hk⟩ : ∃ k, k = (intBits a + n - 1) / n := ⟨_, rfl⟩
  refine CallS.sub (R := fun v H => ∃ T' D, TabsOk ts T' ∧ v = .val (.ref D) ∧ Sub (T' ++ (D, .list (il (i2d n a))) :: H₀) H) ?_ fun v H ⟨T', D, h1, h2, h3⟩ => ⟨_, h3, h2 ▸ out T' D h1⟩
  refine CallS.defC (names := [Str.ofString "a", Str.ofString "n"]) [(Str.ofString "a", .int a)] (fun x => if x = Str.ofString "n" then some (.int n) else none) ok e Lb.hI.cd (by omega) (fun ws h => ?_) ?_ (by decide) (fun L' => ?_) (fun L' => ?_) (fun L' ws h => ?_) (fun L' ws h => ?_) (fun g L' st ok' => ?_) rfl rfl rfl
  · match ws, h with
    | [_, _], _ => rfl
  · intro n x hx
    simp only [List.mem_cons, List.not_mem_nil, or_false] at hx
    rcases hx with rfl | rfl
    · exact .inl rfl
    · exact .inr ⟨rfl, rfl⟩
  · show List.Nodup [L' + 1 + 1 + 1, L' + 1 + 1, L' + 1]
    simp only [List.nodup_cons, List.mem_cons, List.not_mem_nil, or_false, not_false_eq_true, List.nodup_nil, and_true]
    omega
  · show ∀ q ∈ [(Str.ofString "inner", L' + 1 + 1 + 1), (Str.ofString "a_digits", L' + 1 + 1), (Str.ofString "n", L' + 1)], L' < q.2
    intro q hq
    simp only [List.mem_cons, List.not_mem_nil, or_false] at hq
    rcases hq with rfl | rfl | rfl <;> simp only <;> exact Nat.lt_of_lt_of_le (Nat.lt_succ_self _) (by simp [Nat.add_assoc])
  · match ws, h with
    | [w1, w2], ⟨i1, i2, _⟩ =>
      intro x v hx
      have := lookup_mem hx
      simp only [List.mem_cons, List.not_mem_nil, or_false, Prod.mk.injEq] at this
      obtain ⟨rfl, rfl⟩ := this
      exact ⟨w1, rfl, i1⟩
  · match ws, h with
    | [w1, w2], ⟨i1, i2, _⟩ =>
      show ∀ q ∈ [(Str.ofString "inner", L' + 1 + 1 + 1), (Str.ofString "a_digits", L' + 1 + 1), (Str.ofString "n", L' + 1)], _
      intro q hq
      simp only [List.mem_cons, List.not_mem_nil, or_false] at hq
      rcases hq with rfl | rfl | rfl
      · exact show CellV none none from trivial
      · exact show CellV none none from trivial
      · exact show CellV (some (.int n)) (some w2) from i2
  · obtain ⟨cI, hcI⟩ : ∃ c : Addr, c = L' + 1 + 1 + 1 := ⟨_, rfl⟩
    obtain ⟨cA, hcA⟩ : ∃ c : Addr, c = L' + 1 + 1 := ⟨_, rfl⟩
    obtain ⟨cN, hcN⟩ : ∃ c : Addr, c = L' + 1 := ⟨_, rfl⟩
    have hcells : cellsFrom (L' + 1) (scopeAt thePw 4).names [] = [(Str.ofString "inner", cI), (Str.ofString "a_digits", cA), (Str.ofString "n", cN)] := by rw [hcI, hcA, hcN]; rfl
    have hof : cellsOf [(Str.ofString "inner", cI), (Str.ofString "a_digits", cA), (Str.ofString "n", cN)] (fun x => if x = Str.ofString "n" then some (.int n) else none) = [(cI, .cell none), (cA, .cell none), (cN, .cell (some (.int n)))] := rfl
    rw [hcells] at ok' ⊢
    rw [hof]
    clear hcells hof
    refine Cov.ss (m := [(Str.ofString "a", .int a)]) (H := T ++ ((cI, .cell none) :: (cA, .cell none) :: (cN, .cell (some (.int n))) :: H₀)) ⟨by walk_at "cov", .perm ?_⟩ ?_
    · exact List.perm_append_comm_assoc [(cI, AO.cell none), (cA, AO.cell none), (cN, AO.cell (some (.int n)))] T H₀
    have hmul : n * k ≤ 2 ^ 24 := by
      have := Nat.div_mul_le_self (intBits a + n - 1) n
      rw [← hk, Nat.mul_comm] at this
      omega
    have hk1 : k ≤ 2 ^ 23 := by rw [hk]; exact Nat.le_trans (Nat.div_le_self _ _) (by omega)
    refine Ss.cons (St.assignX (R' := fun v H => ∃ d, v = .val (.ref d) ∧ Sub ((d, .list (il (List.replicate k 0))) :: (T ++ ((cI, .cell none) :: (cA, .cell none) :: (cN, .cell (some (.int n))) :: H₀))) H) (Ex.mulList (k := k) (R₁ := fun v H => ∃ d, v = .val (.ref d) ∧ H = (d, .list [.int 0]) :: (T ++ ((cI, .cell none) :: (cA, .cell none) :: (cN, .cell (some (.int n))) :: H₀)))
      (Ex.list (EvL.toX (R := fun vs H => vs = [.int 0] ∧ H = T ++ ((cI, .cell none) :: (cA, .cell none) :: (cN, .cell (some (.int n))) :: H₀)) (EvL.cons .lit EvL.nil) ⟨rfl, rfl⟩) ?_) ?_) ?_ rfl)
    · rintro vs H d ⟨rfl, rfl⟩ _
      exact ⟨Nat.le_of_ble_eq_true rfl, d, rfl, rfl⟩
    · rintro v H ⟨d, rfl, rfl⟩
      refine ⟨d, _, rfl, .head _, ?_, by simp; omega, by omega, by simp, fun d2 _ => ⟨d2, rfl, ?_⟩⟩
      · refine Ev.cast (.fdiv (a := ((intBits a : Nat) : Int) + (n : Int) - 1) (b := (n : Int)) (.sub (.add (by walk_at "ev") (.cell ok' rfl rfl (by simp))) .lit) (.cell ok' rfl rfl (by simp)) (by omega) (noPy (by omega))) ?_
        rw [hk, Int.natCast_ediv]
        congr 1
        omega
      · rw [flat_one]
        exact .cons .tail
    rintro v H ⟨D, rfl, hS⟩
    refine ⟨⟨[(Str.ofString "a", .int a)], (T ++ [(cI, .cell none)]) ++ (cA, .cell (some (.val (.ref D)))) :: (cN, .cell (some (.int n))) :: (D, .list (il (List.replicate k 0))) :: H₀⟩, Sn.pre (σ₁ := ⟨[(Str.ofString "a", .int a)], (T ++ [(cI, .cell none)]) ++ (cA, .cell none) :: (cN, .cell (some (.int n))) :: (D, .list (il (List.replicate k 0))) :: H₀⟩) (Sn.cell ok' rfl rfl rfl) rfl ?_, ?_⟩
    · refine Sub.trans (.perm ?_) hS
      rw [List.append_assoc]
      refine List.perm_middle.symm.trans (List.Perm.append_left T ?_)
      refine (List.Perm.swap _ _ _).trans (List.Perm.cons _ ?_)
      refine (List.Perm.swap _ _ _).trans (List.Perm.cons _ ?_)
      exact (List.Perm.swap _ _ _).trans (List.Perm.cons _ (.refl _))
    show Ss _ _ _ _ _
    refine Ss.cons (St.nest (t := Lb.t) (ts := ts) (T := T) (H₀ := (cI, .cell none) :: (cA, .cell (some (.val (.ref D)))) :: (cN, .cell (some (.int n))) :: (D, .list (il (List.replicate k 0))) :: H₀) ok' rfl rfl rfl Lb.ht rfl (codeHd_of_K ok'.kin Lb.hI.hd) hT (by simp) Lb.hI.line Lb.hI.col Lb.hI.qual rfl ?_)
    intro T' f c' doc pm ctv hT' hcode
    refine ⟨_, Sn.cell (pre := (f, _) :: T') ok' rfl rfl rfl, ?_⟩
    show Ss _ _ _ _ _
    refine Cov.ss (m := [(Str.ofString "a", .int a)]) (H := ((f, fnOb (Str.ofString "inner") qInt (argsIn (bodyAt thePw 4) 1) (bodyIn (bodyAt thePw 4) 1) (scopeIn (bodyAt thePw 4) 1) [(Str.ofString "n", cN), (Str.ofString "inner", cI), (Str.ofString "a_digits", cA)] doc pm c' ctv) :: T' ++ [(cI, .cell (some (.val (.ref f)))), (cA, .cell (some (.val (.ref D)))), (cN, .cell (some (.int n)))]) ++ (D, .list (il (List.replicate k 0))) :: H₀) ⟨by walk_at "cov", .perm ?_⟩ ?_
    · simp only [List.cons_append, List.append_assoc, List.nil_append]
      exact .refl _
    have fin : ∀ vs : List Int, vs = i2d n a → ∀ σ : AS, σ.H = ((f, fnOb (Str.ofString "inner") qInt (argsIn (bodyAt thePw 4) 1) (bodyIn (bodyAt thePw 4) 1) (scopeIn (bodyAt thePw 4) 1) [(Str.ofString "n", cN), (Str.ofString "inner", cI), (Str.ofString "a_digits", cA)] doc pm c' ctv) :: T' ++ [(cI, .cell (some (.val (.ref f)))), (cA, .cell (some (.val (.ref D)))), (cN, .cell (some (.int n)))]) ++ (D, .list (il vs)) :: H₀ → Sub (T' ++ (D, .list (il (i2d n a))) :: H₀) σ.H := by
      rintro vs rfl σ e
      rw [e]
      refine .of ?_
      simp only [List.cons_append, List.append_assoc, List.nil_append]
      refine List.Sublist.cons _ (List.Sublist.append_left ?_ T')
      exact List.Sublist.cons _ (List.Sublist.cons _ (List.Sublist.cons _ (.refl _)))
    refine Ss.cons (St.mono (R := fun fl τ => fl = .next ∧ τ.H = ((f, fnOb (Str.ofString "inner") qInt (argsIn (bodyAt thePw 4) 1) (bodyIn (bodyAt thePw 4) 1) (scopeIn (bodyAt thePw 4) 1) [(Str.ofString "n", cN), (Str.ofString "inner", cI), (Str.ofString "a_digits", cA)] doc pm c' ctv) :: T' ++ [(cI, .cell (some (.val (.ref f)))), (cA, .cell (some (.val (.ref D)))), (cN, .cell (some (.int n)))]) ++ (D, .list (il (i2d n a))) :: H₀) ?_ ?_)
    · refine St.ite (c := decide (a ≠ 0)) (Tst.int (by walk_at "ev")) (fun hc => ?_) (fun hc => ?_)
      · have hc' : a ≠ 0 := of_decide_eq_true hc
        have hk0 : 0 < k := by
          have : 0 < intBits a := by
            unfold PySem.Builtin.Int.intBits
            rw [if_neg (by simpa using hc')]
            omega
          rw [hk]
          exact Nat.div_pos (by omega) hn
        refine Ss.cons (St.expr (R' := fun v H => H = ((f, fnOb (Str.ofString "inner") qInt (argsIn (bodyAt thePw 4) 1) (bodyIn (bodyAt thePw 4) 1) (scopeIn (bodyAt thePw 4) 1) [(Str.ofString "n", cN), (Str.ofString "inner", cI), (Str.ofString "a_digits", cA)] doc pm c' ctv) :: T' ++ [(cI, .cell (some (.val (.ref f)))), (cA, .cell (some (.val (.ref D)))), (cN, .cell (some (.int n)))]) ++ (D, .list (il (i2d n a))) :: H₀)
          (Ex.callF (vs := [.int a, .int ((0 : Nat) : Int), .int ((k : Nat) : Int)]) (.cell ok' rfl rfl (by simp)) (fun h ha => ⟨_, _, _, _, ha.objAt (o := fnMade _ _ _ _ _ _ doc pm c' ctv) (.head _)⟩)
            (EvL.cons (by walk_at "ev") (EvL.cons .lit (EvL.cons (Ev.cast (Ev.len (a := D) (vs := il (List.replicate k 0)) (.bltn ok' rfl Lb.hlen rfl (by decide)) (.cell ok' rfl rfl (by simp)) (.inl (by simp)) (by simp; omega)) (by simp)) EvL.nil)))
            (innerI_spec n hn f c' cA cI cN D doc pm ctv _ H₀ (by simp) (List.mem_append_left _ (.tail _ (List.mem_append_left _ hcode))) (by simp) (by simp) (by simp) K _ _ a 0 k (List.replicate k 0) _ ok' hk0 (by omega) (by simp) (by simp; omega) (by simp; omega) ha (by rw [hk]; exact i2d_enough hn ha) (by show X.dp + 1 + K < _; omega) ?_) rfl rfl) ?_ rfl rfl)
        · rw [fillD_all (by simp [dig_length]), Nat.sub_zero, hk]
          rfl
        · rintro v H rfl
          exact Ss.nil ⟨rfl, rfl⟩
      · have hc' : a = 0 := by have := of_decide_eq_false hc; omega
        refine Ss.nil ⟨rfl, ?_⟩
        subst hc'
        have hk0 : k = 0 := by
          rw [hk, show intBits 0 = 0 from rfl]
          exact Nat.div_eq_of_lt (by omega)
        have e0 : i2d n 0 = List.replicate k 0 := by
          unfold i2d
          rw [← hk, hk0]
          rfl
        rw [e0]
    · rintro fl τ ⟨rfl, eH⟩
      show Ss _ _ _ _ _
      refine Ss.cons (St.ret (v := .val (.ref D)) (.cell ok' rfl rfl (by rw [eH]; simp)) ⟨T', D, hT', rfl, fin _ rfl τ eH⟩)
end Mine
namespace Mine
open PySem PySem.W PyProof.Rows PySem.Spec PySem.Calls
open PySem.Builtin.Int (intBits)
local macro_rules | `(tactic| walk_at "cov") => `(tactic| first | exact List.forall_mem_nil _ | (refine List.forall_mem_cons.mpr ⟨rfl, ?_⟩; walk_at "cov"))
local macro_rules | `(tactic| walk_at "ev") => `(tactic| first
  | with_reducible exact Ev.lit
  | (with_reducible refine Ev.loc (by assumption) ?_ ?_ ?_) <;> rfl
  | ((with_reducible refine Ev.add ?_ ?_) <;> walk_at "ev")
  | ((with_reducible refine Ev.sub ?_ ?_) <;> walk_at "ev")
  | ((with_reducible refine Ev.neg ?_) <;> walk_at "ev")
  | ((with_reducible refine Ev.shr ?_ ?_) <;> walk_at "ev")
  | ((with_reducible refine Ev.bitlen ?_ ?_); (focus (walk_at "ev")); exact ⟨_, rfl⟩))

theorem LAt.sub {X : FX} {H : AH} {a : Addr} {vs : List AV} {qual : Str} {scope : Scope} {f : Addr} {cdv : Value} {cl : List (Str × Addr)} {g : Heap} {L' : Addr} (h : LAt X H a vs) (st : X.h₀.StaysIn g) : LAt (subX X qual scope f cdv cl g L') H a vs := by
  rcases h with h | h | ⟨ws, h1, h2⟩
  · exact .inl h
  · exact .inr (.inl h)
  · exact .inr (.inr ⟨ws, h1.at fun o e => st a o e, h2⟩)
theorem LAt.mono {X : FX} {H H' : AH} {a : Addr} {vs : List AV} (h : LAt X H a vs) (hs : ∀ p ∈ H, p ∈ H') : LAt X H' a vs := by
  rcases h with h | ⟨o, h1, h2⟩ | h
  · exact .inl (hs _ h)
  · exact .inr (.inl ⟨o, hs _ h1, h2⟩)
  · exact .inr (.inr h)
/-- two ints by an operator, made by calls -/
theorem Ex.bin {G : GX} {X : FX} {σ : AS} {l r : Expr} {pos : Pos} {op : Operator} {R R₁ : AV → AH → Prop} (hl : Ex G X σ l R₁)
    (hr : ∀ v H, R₁ v H → ∃ a, v = .int a ∧ Ex G X { σ with H := H } r fun w H' => ∃ b c, w = .int b ∧ (∀ (s : Shared) (Q E : Value → Shared → Prop) t u, Q (.int c s.toks) { s with toks := s.toks + 1 } → wpAny G.M X.A (binaryOp op (.int a t) (.int b u)) Q E s) ∧ R (.int c) H') : Ex G X σ (.BinOp l op r pos) R := by
  intro s Q E ha hQ
  refine wpAny_BinOp (hl s _ _ ha fun w v h' tk H' a' z i rr => ?_)
  obtain ⟨a, rfl, hx⟩ := hr v H' rr
  obtain ⟨t, rfl⟩ := i
  refine hx _ _ _ a' fun w₂ v₂ h₂ tk₂ H₂ a₂ z₂ i₂ r₂ => ?_
  obtain ⟨b, c, rfl, hop, hR⟩ := r₂
  obtain ⟨u, rfl⟩ := i₂
  exact hop _ _ _ _ _ (hQ _ (.int c) h₂ (tk₂ + 1) H₂ a₂ (z.trans z₂ a₂) ⟨_, rfl⟩ hR)

theorem undig_bits {n B : Nat} (hn : 0 < n) : ∀ (l : List Int), (∀ d ∈ l, intBits d ≤ B) → intBits (undig n l) ≤ n * l.length + B := by
  have key : ∀ (l : List Int), (∀ d ∈ l, intBits d ≤ B) → ((undig n l).natAbs : Int) ≤ 2 ^ B * (2 ^ (n * l.length) - 1) := by
    intro l
    induction l with
    | nil => intro _; simp [undig]
    | cons d r ih =>
      intro h
      have h1 := intBits_le_iff.mp (h d (.head _))
      have h2 := ih fun e he => h e (.tail _ he)
      have cB := kbt_cast B
      have pN := kbt_pos n
      have pB := kbt_pos B
      have e1 : (undig n (d :: r)).natAbs ≤ d.natAbs + (2 ^ n * undig n r).natAbs := by rw [undig]; exact Int.natAbs_add_le _ _
      have e2 : ((2 ^ n * undig n r).natAbs : Int) = 2 ^ n * ((undig n r).natAbs : Int) := by rw [Int.natAbs_mul, Int.natCast_mul, Int.natAbs_pow]; push_cast; rfl
      have e3 : (2 : Int) ^ n * ((undig n r).natAbs : Int) ≤ 2 ^ n * (2 ^ B * (2 ^ (n * r.length) - 1)) := Int.mul_le_mul_of_nonneg_left h2 (by omega)
      have e4 : (2 : Int) ^ n * (2 ^ B * (2 ^ (n * r.length) - 1)) = 2 ^ B * (2 ^ (n * (r.length + 1)) - 2 ^ n) := by
        rw [← Int.mul_assoc, Int.mul_comm (2 ^ n) (2 ^ B), Int.mul_assoc, Int.mul_sub, ← Int.pow_add, Int.mul_one, show n + n * r.length = n * (r.length + 1) from by rw [Nat.mul_succ, Nat.add_comm]]
      have e5 : (2 : Int) ^ B * (2 ^ (n * (r.length + 1)) - 2 ^ n) + 2 ^ B ≤ 2 ^ B * (2 ^ (n * (r.length + 1)) - 1) := by
        have : (2 : Int) ^ B * (2 ^ (n * (r.length + 1)) - 2 ^ n + 1) ≤ 2 ^ B * (2 ^ (n * (r.length + 1)) - 1) := Int.mul_le_mul_of_nonneg_left (by have := pow_ge2 hn; omega) (by omega)
        rw [Int.mul_add, Int.mul_one] at this
        exact this
      rw [List.length_cons]
      omega
  intro l h
  refine intBits_le_iff.mpr ?_
  have h1 := key l h
  have pB := kbt_pos B
  have e : (2 : Int) ^ B * (2 ^ (n * l.length) - 1) = 2 ^ (n * l.length + B) - 2 ^ B := by rw [Int.mul_sub, Int.mul_one, ← Int.pow_add, Nat.add_comm]
  have c := kbt_cast (n * l.length + B)
  omega
theorem take_drop_split {vs : List Int} {L M R : Nat} (h1 : L ≤ M) (h2 : M ≤ R) : (vs.drop L).take (R - L) = (vs.drop L).take (M - L) ++ (vs.drop M).take (R - M) := by
  rw [show R - L = (M - L) + (R - M) from by omega, List.take_add, List.drop_drop, show L + (M - L) = M from by omega]

abbrev qDig : Str := Str.ofString "_digits2int" ++ ".<locals>." ++ Str.ofString "inner"
/-- an object of the ledger, as it is -/
theorem Ss.exact {G : GX} {X : FX} {σ : AS} {b : List Stmt} {R : Fl → AS → Prop} {pre post : AH} {d : Addr} {ao : AO} (hH : σ.H = pre ++ (d, ao) :: post) (h : ∀ o, ao.Is o → Ss G X { σ with H := pre ++ (d, .obj o) :: post } b R) : Ss G X σ b R := by
  intro s Q E ha hQ
  obtain ⟨o, e1, e2, e3, e4⟩ := ha.hp (d, ao) (by rw [hH]; simp)
  have a' : At X { σ with H := pre ++ (d, .obj o) :: post } s.heap := by
    have := ha.upd (h' := s.heap) (o' := o) (ao' := .obj o) hH ⟨rfl, fun _ _ => rfl⟩ e1 rfl
    exact this
  refine h o e2 s Q E a' fun f fl h' tk σ' a'' z i r => hQ f fl h' tk σ' a'' ?_ i r
  refine ⟨fun b o e hL hd => z.fr b o e hL (by rw [hH] at hd; simpa using hd), fun p hp => ?_⟩
  rcases z.dm p hp with q | q
  · refine .inl ?_
    rw [hH]
    simpa using q
  · exact .inr q
theorem Cov.set {σ : AS} {m : List (Str × AV)} {H : AH} {x : Str} {v : AV} (c : Cov σ m H) (hx : (m.map (·.1)).contains x = false := by rfl) : Cov (σ.set x v) ((x, v) :: m) H := by
  refine ⟨List.forall_mem_cons.mpr ⟨?_, fun p hp => ?_⟩, c.2⟩
  · show List.lookup x ((x, v) :: σ.m) = some v
    rw [List.lookup_cons]
    simp
  · show List.lookup p.1 ((x, v) :: σ.m) = some p.2
    rw [List.lookup_cons, show (p.1 == x) = false from beq_eq_false_iff_ne.mpr fun q => by
      rw [← q, show (m.map (·.1)).contains p.1 = true from List.contains_iff_mem.mpr (List.mem_map_of_mem hp)] at hx
      cases hx]
    exact c.1 p hp

theorem il_append (a b : List Int) : il (a ++ b) = il a ++ il b := List.map_append
/-- digits from the top down -/
def bev (n : Nat) (l : List Int) : Int := l.foldl (fun A d => A * 2 ^ n + d) 0
theorem bev_reverse (n : Nat) : ∀ l : List Int, bev n l.reverse = undig n l
  | [] => rfl
  | d :: r => by
    have ih := bev_reverse n r
    unfold bev at ih ⊢
    rw [List.reverse_cons, List.foldl_append, ih, List.foldl_cons, List.foldl_nil, undig, Int.mul_comm]
    omega
theorem bev_snoc (n : Nat) (l : List Int) (d : Int) : bev n (l ++ [d]) = bev n l * 2 ^ n + d := by
  unfold bev
  rw [List.foldl_append, List.foldl_cons, List.foldl_nil]
/-- one more digit of a long division -/
theorem long_step {A b P d : Int} (hb : 0 < b) (hP : 0 < P) (hd0 : 0 ≤ d) (hd1 : d < P) :
    (A * P + d) / b = A / b * P + (A % b * P + d) / b ∧ (A * P + d) % b = (A % b * P + d) % b ∧ A % b * P + d < P * b ∧ 0 ≤ A % b * P + d := by
  have h1 := div_mod A b
  have h2 := div_mod (A % b * P + d) b
  have r0 := emod_nn (x := A) hb
  have r1 := emod_lt' (x := A) hb
  have s0 := emod_nn (x := A % b * P + d) hb
  have s1 := emod_lt' (x := A % b * P + d) hb
  have k0 : 0 ≤ A % b * P := Int.mul_nonneg r0 (by omega)
  have k1 : (A % b + 1) * P ≤ b * P := Int.mul_le_mul_of_nonneg_right (by omega) (by omega)
  have k2 : (A % b + 1) * P = A % b * P + P := by rw [Int.add_mul, Int.one_mul]
  have e : A * P + d = (A / b * P + (A % b * P + d) / b) * b + (A % b * P + d) % b := by
    have x1 : A * P = A / b * P * b + A % b * P := by
      have : A * P = (A / b * b + A % b) * P := by rw [← h1]
      rw [this, Int.add_mul, Int.mul_assoc, Int.mul_comm b P, ← Int.mul_assoc]
    rw [Int.add_mul]
    omega
  have u := (Int.ediv_emod_unique (a := A * P + d) (b := b) (r := (A % b * P + d) % b) (q := A / b * P + (A % b * P + d) / b) hb).mpr ⟨by rw [Int.mul_comm b]; omega, s0, s1⟩
  exact ⟨u.1, u.2, by rw [Int.mul_comm P b]; omega, by omega⟩
theorem bits_exact {b : Int} (hb : 0 < b) : 0 < intBits b ∧ (2 : Int) ^ (intBits b - 1) ≤ b ∧ b < 2 ^ intBits b := by
  have h1 : b < 2 ^ intBits b := lt_of_bits (Nat.le_refl _)
  have h0 : 0 < intBits b := by
    rcases Nat.eq_zero_or_pos (intBits b) with q | q
    · rw [q] at h1; omega
    · exact q
  refine ⟨h0, ?_, h1⟩
  by_cases q : b < 2 ^ (intBits b - 1)
  · have := bits_of (by omega) q
    omega
  · omega

theorem Tst.cast {G : GX} {X : FX} {σ : AS} {e : Expr} {a b : Bool} (h : Tst G X σ e a) (q : a = b) : Tst G X σ e b := q ▸ h
theorem bool_and_true {a b : Bool} (ha : a = true) (hb : b = true) : (a && b) = true := by rw [ha, hb]; rfl

end Mine
namespace Mine
open PySem PySem.W PyProof.Rows PySem.Spec PySem.Calls
open PySem.Builtin.Int (intBits)
local macro_rules | `(tactic| walk_at "cov") => `(tactic| first | exact List.forall_mem_nil _ | (refine List.forall_mem_cons.mpr ⟨rfl, ?_⟩; walk_at "cov"))
local macro_rules | `(tactic| walk_at "ev") => `(tactic| first
  | with_reducible exact Ev.lit
  | (with_reducible refine Ev.loc (by assumption) ?_ ?_ ?_) <;> rfl
  | ((with_reducible refine Ev.add ?_ ?_) <;> walk_at "ev")
  | ((with_reducible refine Ev.sub ?_ ?_) <;> walk_at "ev")
  | ((with_reducible refine Ev.neg ?_) <;> walk_at "ev"))
structure LibS (G : GX) where
  fC : Addr
  hC : Has G 6 (Str.ofString "_law_cut") fC
  fS : Addr
  hS : Has G 7 (Str.ofString "_law_school") fS
  hr : nsIn G.K mainGlobals (Str.ofString "range") = some none
  hlen : nsIn G.K mainGlobals (Str.ofString "len") = some none
theorem Cov.tst {G : GX} {X : FX} {σ : AS} {m : List (Str × AV)} {H : AH} {e : Expr} {b : Bool} (c : Cov σ m H) (h : Tst G X ⟨m, H⟩ e b) : Tst G X σ e b :=
  fun s Q E ha hQ => h s Q E (ha.sub (fun x v e => c.1 (x, v) (lookup_mem e)) c.2) hQ
theorem i2d_eq {n k : Nat} {x : Int} (hn : 0 < n) (h0 : 2 ^ (n * k) ≤ x) (h1 : x < 2 ^ (n * (k + 1))) : i2d n x = dig n x (k + 1) := by
  have hp := kbt_pos (n * k)
  have b1 : intBits x ≤ n * (k + 1) := bits_of (by omega) h1
  have b2 : n * k < intBits x := by
    rcases Nat.lt_or_ge (n * k) (intBits x) with q | q
    · exact q
    · have := lt_of_bits q; omega
  unfold i2d
  congr 1
  rw [Nat.mul_succ] at b1
  rw [Nat.div_eq_iff hn, Nat.succ_mul, Nat.mul_comm k n]
  omega
theorem i2d_nil {n : Nat} (hn : 0 < n) : i2d n 0 = [] := by
  unfold i2d
  rw [show intBits 0 = 0 from by decide, Nat.zero_add, Nat.div_eq_of_lt (by omega)]
  rfl
/-- the top digit is nought -/
theorem cut_go {n k : Nat} {x : Int} (h0 : 0 ≤ x) (h1 : x < 2 ^ (n * (k + 1))) (hd : x / 2 ^ (n * k) % 2 ^ n = 0) : x < 2 ^ (n * k) := by
  have hp := kbt_pos (n * k)
  have q0 := div_nn h0 hp
  have q1 : x / 2 ^ (n * k) < 2 ^ n := div_lt hp (by rw [← Int.pow_add, Nat.add_comm, ← Nat.mul_succ]; exact h1)
  rw [Int.emod_eq_of_lt q0 q1] at hd
  have := div_mod x (2 ^ (n * k))
  have := emod_lt' (x := x) hp
  rw [hd, Int.zero_mul] at *
  omega
theorem cut_stop {n k : Nat} {x : Int} (hn : 0 < n) (h0 : 0 ≤ x) (h1 : x < 2 ^ (n * (k + 1))) (hd : x / 2 ^ (n * k) % 2 ^ n ≠ 0) : i2d n x = dig n x (k + 1) := by
  refine i2d_eq hn ?_ h1
  rcases Int.lt_or_le x (2 ^ (n * k)) with q | q
  · rw [Int.ediv_eq_zero_of_lt h0 q] at hd
    simp at hd
  · exact q
set_option maxHeartbeats 4000000
theorem cut_spec {G : GX} (Lb : LibS G) (X : FX) (m : List (Str × AV)) (n k : Nat) (x : Int) (a : Addr) (H₀ : AH) (R : AV → AH → Prop) (ok : X.Ok G) (hn : 0 < n) (hk : k ≤ 1000) (x0 : 0 ≤ x) (x1 : x < 2 ^ (n * k)) (hd : X.dp < recursionLimit) (hu : X.un + 3 + 64 < cLine)
    (out : ∀ d, R (.val (.ref d)) ((d, .list (il (i2d n x))) :: H₀)) : CallS G X ⟨m, (a, .list (il (dig n x k))) :: H₀⟩ (.ref Lb.fC) [.val (.ref a)] R := by
  obtain ⟨oc, od, osl, doc, pm, an, cdv, ct, e, hcd⟩ := Lb.hC.obj
  refine CallS.sub (R := fun v H => ∃ d, v = .val (.ref d) ∧ Sub ((d, .list (il (i2d n x))) :: H₀) H) ?_ fun v H ⟨d, h1, h2⟩ => ⟨_, h2, h1 ▸ out d⟩
  refine CallS.def (names := [Str.ofString "row"]) ok e hcd hd rfl (fun ws h => ?_) ?_ (fun g L' st ok' => ?_) (by decide) rfl rfl rfl
  · match ws, h with
    | [_], _ => rfl
  · intro y hy
    cases List.mem_singleton.mp hy
    rfl
  refine Ss.cons (St.whileX (fun c τ => ∃ d, x < 2 ^ (n * c) ∧ c ≤ k ∧ Cov τ [(Str.ofString "row", .val (.ref d))] ((d, .list (il (dig n x c))) :: H₀)) ?_ k ⟨a, x1, Nat.le_refl _, by walk_at "cov", Sub.refl _⟩)
  rintro c τ ⟨d, hx, hc, cv⟩
  refine ⟨[(Str.ofString "row", .val (.ref d))], (d, .list (il (dig n x c))) :: H₀, fun x v e => cv.1 (x, v) (lookup_mem e), cv.2, fun b H' => b = decide (c ≠ 0 ∧ x / 2 ^ (n * (c - 1)) % 2 ^ n = 0) ∧ Sub ((d, .list (il (dig n x c))) :: H₀) H', ?_, ?_, ?_⟩
  · refine TsX.andX (R₁ := fun b H' => b = decide (c ≠ 0) ∧ ∃ g, H' = g :: (d, .list (il (dig n x c))) :: H₀) (TsX.cmp (R₁ := fun v H => v = .val (.ref d) ∧ H = (d, .list (il (dig n x c))) :: H₀) (Ev.toEx (v := .val (.ref d)) (by walk_at "ev") ⟨rfl, rfl⟩) ?_) ?_ ?_
    · rintro v H ⟨rfl, rfl⟩
      refine Ex.list (R₁ := fun vs H => vs = il [] ∧ H = (d, .list (il (dig n x c))) :: H₀) (ExL.nil ⟨rfl, rfl⟩) ?_
      rintro vs H d2 ⟨rfl, rfl⟩ _
      refine ⟨Nat.le_of_ble_eq_true rfl, _, CmpS.listNe (x := dig n x c) (y := []) (.inl (by simp)) (.inl (.head _)) hu, ?_, _, rfl⟩
      cases c with
      | zero => simp [dig]
      | succ c => simp [dig]
    · rintro H ⟨hb, g, rfl⟩
      have hc0 : c ≠ 0 := of_decide_eq_true hb.symm
      obtain ⟨c', rfl⟩ : ∃ c', c = c' + 1 := ⟨c - 1, by omega⟩
      refine Tst.toX (b := decide (x / 2 ^ (n * c') % 2 ^ n = 0)) (Tst.cmp (Ev.itemNeg (a := d) (vs := il (dig n x (c' + 1))) (k := 1) (by walk_at "ev") (.neg .lit) (.inl (by simp)) (by omega) (by simp [dig_length]) ?_ (by omega)) .lit rfl) ⟨?_, .tail⟩
      · rw [List.length_map, dig_length, Nat.add_sub_cancel, List.getElem?_map, dig_get n _ _ (Nat.lt_succ_self _)]
        rfl
      · simp
    · rintro H ⟨hb, g, rfl⟩
      have hc0 : ¬ c ≠ 0 := of_decide_eq_false hb.symm
      exact ⟨by rw [decide_eq_false]; exact fun q => hc0 q.1, .tail⟩
  · rintro H ⟨hb, hS⟩
    obtain ⟨hc0, hz⟩ := of_decide_eq_true hb.symm
    obtain ⟨c', rfl⟩ : ∃ c', c = c' + 1 := ⟨c - 1, by omega⟩
    rw [Nat.add_sub_cancel] at hz
    refine Cov.ss (m := [(Str.ofString "row", .val (.ref d))]) (H := (d, .list (il (dig n x (c' + 1)))) :: H₀) ⟨by walk_at "cov", hS⟩ ?_
    refine Ss.cons (St.assignL (R' := fun v H => ∃ d2, v = .val (.ref d2) ∧ H = (d2, .list (il (dig n x c'))) :: (d, .list (il (dig n x (c' + 1)))) :: H₀) ok' rfl (Ex.slice (a := none) (b := some (-1)) (R₁ := fun v H => v = .val (.ref d) ∧ H = (d, .list (il (dig n x (c' + 1)))) :: H₀) (Ev.toEx (v := .val (.ref d)) (by walk_at "ev") ⟨rfl, rfl⟩) ?_) ?_ rfl)
    · rintro v H ⟨rfl, rfl⟩
      refine ⟨d, il (dig n x (c' + 1)), rfl, .inl (.head _), by simp [dig_length]; omega, Part.none, Part.some (.neg .lit), fun d2 _ => ⟨d2, rfl, ?_⟩⟩
      rw [sliceV_il, sliceV_last _ (by simp [dig]), dig_last]
    · rintro v H ⟨d2, rfl, rfl⟩
      exact Ss.nil ⟨c', Nat.lt_succ_self _, d2, cut_go x0 hx hz, by omega, by walk_at "cov", .cons .tail⟩
  · rintro H ⟨hb, hS⟩
    have hb' := of_decide_eq_false hb.symm
    have hr : i2d n x = dig n x c := by
      cases c with
      | zero =>
        have : x = 0 := by rw [Nat.mul_zero, Int.pow_zero] at hx; omega
        subst this
        rw [i2d_nil hn]
        rfl
      | succ c' =>
        rw [Nat.add_sub_cancel] at hb'
        exact cut_stop hn x0 hx fun q => hb' ⟨by omega, q⟩
    show Ss _ _ _ _ _
    refine Ss.cons (St.ret (v := .val (.ref d)) (by walk_at "ev") ⟨d, rfl, ?_⟩)
    rw [hr]
    exact hS
end Mine
namespace Mine
open PySem PySem.W PyProof.Rows PySem.Spec PySem.Calls
open PySem.Builtin.Int (intBits)
local macro_rules | `(tactic| walk_at "cov") => `(tactic| first | exact List.forall_mem_nil _ | (refine List.forall_mem_cons.mpr ⟨rfl, ?_⟩; walk_at "cov"))
local macro_rules | `(tactic| walk_at "ev") => `(tactic| first
  | with_reducible exact Ev.lit
  | (with_reducible refine Ev.loc (by assumption) ?_ ?_ ?_) <;> rfl
  | ((with_reducible refine Ev.add ?_ ?_) <;> walk_at "ev")
  | ((with_reducible refine Ev.sub ?_ ?_) <;> walk_at "ev")
  | ((with_reducible refine Ev.neg ?_) <;> walk_at "ev"))
theorem noPyP {a b : Int} {m : Nat} (hm : m ≤ 9000) (h0 : 0 ≤ b) (h : b < 2 ^ m) : Builtin.divisionGoesByPylong a b = false := by
  unfold Builtin.divisionGoesByPylong
  have : ¬ ((if b == 0 then 0 else b.natAbs.log2 / 30 + 1) > 300) := by
    split
    · omega
    · rename_i hb
      have hb' : b.natAbs ≠ 0 := by simp at hb; omega
      have c := kbt_cast m
      have := (Nat.log2_lt hb').mpr (show b.natAbs < 2 ^ m by omega)
      omega
  simp only [decide_eq_false this, Bool.false_and]
section
variable {G : GX} {X : FX} {σ : AS} {p1 p2 p3 p4 : Pos} {x : Str} {d : Addr} {l : List Int} {k c0 : Nat} {y z : Int} {i : Expr}
/-- an item of a list of ints that a name holds -/
theorem Ev.intAt (ok : X.Ok G) (hx : X.cs.names.lookup x = some .local) (hm : σ.m.lookup x = some (.val (.ref d))) (hH : (d, AO.list (il l)) ∈ σ.H) (hi : Ev G X σ i (.int (k : Int))) (hy : l[k]? = some y) (hk : k < 2 ^ 62)
    (hd : (x == ("__debug__" : Str)) = false := by decide)
    (hs : ∀ t, subscripted i false (.ref d) (.int (k : Int) t) = operate [.ref d, .int (k : Int) t] (getItem (.ref d) (.int (k : Int) t)) := by intro _; with_unfolding_all rfl) : Ev G X σ (.Subscript (.Name x p1) i p4) (.int y) :=
  Ev.item (vs := il l) (.loc ok hx hm hd) hi (.inl hH) (by rw [List.getElem?_map, hy]; rfl) hk hs
theorem Ev.intNeg (ok : X.Ok G) (hx : X.cs.names.lookup x = some .local) (hm : σ.m.lookup x = some (.val (.ref d))) (hH : (d, AO.list (il l)) ∈ σ.H) (hz : z = (k : Int)) (k0 : 0 < k) (kl : k ≤ l.length) (hy : l[l.length - k]? = some y) (hk : k < 2 ^ 62)
    (hd : (x == ("__debug__" : Str)) = false := by decide) : Ev G X σ (.Subscript (.Name x p1) (.UnaryOp .USub (.Constant (.int z) c0 p2) p3) p4) (.int y) := by
  subst hz
  exact Ev.itemNeg (vs := il l) (k := k) (.loc ok hx hm hd) (.neg .lit) (.inl hH) k0 (by simpa using kl) (by rw [List.length_map, List.getElem?_map, hy]; rfl) hk
end
theorem il_set (l : List Int) (i : Nat) (x : Int) : il (l.set i x) = (il l).set i (.int x) := List.map_set
theorem digb {n : Nat} (x : Int) : 0 ≤ x % 2 ^ n ∧ x % 2 ^ n < 2 ^ n ∧ intBits (x % 2 ^ n) ≤ n :=
  ⟨emod_nn (kbt_pos n), emod_lt' (kbt_pos n), bits_of (emod_nn (kbt_pos n)) (emod_lt' (kbt_pos n))⟩
set_option maxHeartbeats 8000000
theorem school_spec {G : GX} (Lb : LibS G) (X : FX) (m : List (Str × AV)) (n s mm : Nat) (Y W : Int) (av aw : Addr) (H₀ : AH) (R : AV → AH → Prop) (ok : X.Ok G) (n0 : 0 < n) (nb : n ≤ 3000) (s2 : 2 ≤ s) (sb : s ≤ 500) (mb : mm ≤ 500) (w0 : 2 ^ (n * s) ≤ 2 * W) (w1 : W < 2 ^ (n * s)) (y0 : 0 ≤ Y) (y1 : Y < 2 ^ (n * mm))
    (hav : (av, AO.list (il (dig n Y mm))) ∈ H₀) (haw : (aw, AO.list (il (dig n W s))) ∈ H₀) (hd : X.dp + 1 < recursionLimit) (hu : X.un + 6 + 64 < cLine)
    (out : ∀ dt d1 d2, R (.val (.ref dt)) ((dt, .tup [.val (.ref d1), .val (.ref d2)]) :: (d1, .list (il (i2d n (Y / W)))) :: (d2, .list (il (i2d n (Y % W)))) :: H₀)) :
    CallS G X ⟨m, H₀⟩ (.ref Lb.fS) [.val (.ref av), .val (.ref aw), .int (2 ^ n)] R := by
  obtain ⟨oc, od, osl, doc, pm, an, cdv, ct, e, hcd⟩ := Lb.hS.obj
  refine CallS.sub (R := fun v H => ∃ dt d1 d2, v = .val (.ref dt) ∧ Sub ((dt, .tup [.val (.ref d1), .val (.ref d2)]) :: (d1, .list (il (i2d n (Y / W)))) :: (d2, .list (il (i2d n (Y % W)))) :: H₀) H) ?_ fun v H ⟨dt, d1, d2, h1, h2⟩ => ⟨_, h2, h1 ▸ out dt d1 d2⟩
  refine CallS.def (names := [Str.ofString "v", Str.ofString "w", Str.ofString "power"]) ok e hcd (by omega) rfl (fun ws h => ?_) ?_ (fun g L' st ok' => ?_) (by decide) rfl rfl rfl
  · match ws, h with
    | [_, _, _], _ => rfl
  · intro y hy
    simp only [List.mem_cons, List.not_mem_nil, or_false] at hy
    rcases hy with rfl | rfl | rfl <;> rfl
  have hP := kbt_pos n
  have hW : 0 < W := by have := kbt_pos (n * s); omega
  have Pb : intBits ((2 : Int) ^ n) ≤ n + 1 := bits_of (by omega) (by rw [Int.pow_succ]; omega)
  have Plt : (2 : Int) ^ n < 2 ^ (n + 1) := by rw [Int.pow_succ]; omega
  have hwl : (dig n W s).length = s := dig_length ..
  refine Ss.cons (St.assign (v := .int (s : Int)) ok' rfl (Ev.cast (Ev.len (a := aw) (vs := il (dig n W s)) (.bltn ok' rfl Lb.hlen rfl (by decide)) (by walk_at "ev") (.inl haw) (by rw [List.length_map, hwl]; omega)) (by rw [List.length_map, hwl])) ?_ rfl)
  show Ss _ _ _ _ _
  refine Ss.cons (St.assignL (R' := fun v H => ∃ dv g, v = .val (.ref dv) ∧ H = (dv, .list (il (dig n Y (mm + 1)))) :: g :: H₀) ok' rfl (Ex.addList (R₁ := fun v H => v = .val (.ref av) ∧ H = H₀) (Ev.toEx (v := .val (.ref av)) (by walk_at "ev") ⟨rfl, rfl⟩) ?_) ?_ rfl)
  · rintro v H ⟨rfl, rfl⟩
    refine Ex.list (R₁ := fun vs H' => vs = il [0] ∧ H' = H) (EvL.toX (vs := il [0]) (EvL.cons .lit EvL.nil) ⟨rfl, rfl⟩) ?_
    rintro vs H' d ⟨rfl, rfl⟩ _
    refine ⟨Nat.le_of_ble_eq_true rfl, av, d, il (dig n Y mm), il [0], rfl, rfl, .inl (.tail _ hav), .inl (.head _), by rw [List.length_map, dig_length]; simp; omega, fun d2 _ => ⟨d2, (d, .list (il [0])), rfl, ?_⟩⟩
    rw [← il_append, dig_pad y0 y1]
  rintro v H ⟨dv, g0, rfl, rfl⟩
  show Ss _ _ _ _ _
  refine Ss.cons (St.assignL (R' := fun v H => ∃ dq, v = .val (.ref dq) ∧ H = (dq, .list (il [])) :: (dv, .list (il (dig n Y (mm + 1)))) :: g0 :: H₀) ok' rfl (Ex.list (R₁ := fun vs H => vs = [] ∧ H = (dv, .list (il (dig n Y (mm + 1)))) :: g0 :: H₀) (EvL.toX (vs := []) EvL.nil ⟨rfl, rfl⟩) ?_) ?_ rfl)
  · rintro vs H d ⟨rfl, rfl⟩ _
    exact ⟨Nat.le_of_ble_eq_true rfl, d, rfl, rfl⟩
  rintro v H ⟨dq₀, rfl, rfl⟩
  show Ss _ _ _ _ _
  obtain ⟨K, hK⟩ : ∃ K, K = mm + 1 - s := ⟨_, rfl⟩
  obtain ⟨s1, s1', s1''⟩ := stg_start (n := n) (s := s) (W := W) (Y := Y) (m := mm) (K := K) s2 w0 n0 (by omega) y0 y1
  refine Cov.ss (m := [(Str.ofString "v", .val (.ref dv)), (Str.ofString "w", .val (.ref aw)), (Str.ofString "power", .int (2 ^ n)), (Str.ofString "size", .int (s : Int)), (Str.ofString "quotient", .val (.ref dq₀))]) (H := (dq₀, .list (il [])) :: (dv, .list (il (dig n Y (mm + 1)))) :: H₀) ⟨by walk_at "cov", .cons (.cons .tail)⟩ ?_
  refine Ss.cons (St.forI (items := il (rng ((mm : Int) - (s : Int)) (-1) K)) (lk := none) (fun j τ => ∃ dq, Cov τ [(Str.ofString "v", .val (.ref dv)), (Str.ofString "w", .val (.ref aw)), (Str.ofString "power", .int (2 ^ n)), (Str.ofString "size", .int (s : Int)), (Str.ofString "quotient", .val (.ref dq))] ((dq, .list (il (dig n (Y / (2 ^ (n * (K - j)) * W)) j))) :: (dv, .list (il (dig n (stg n Y W (K - j)) (mm + 1)))) :: H₀)) ok' rfl
    (Src.down (a := (mm : Int) - (s : Int)) (b := -1) (.bltn ok' rfl Lb.hr rfl (by decide)) (Ev.cast (.sub (.sub (Ev.len (a := dv) (vs := il (dig n Y (mm + 1))) (.bltn ok' rfl Lb.hlen rfl (by decide)) (by walk_at "ev") (.inl (.tail _ (.head _))) (by rw [List.length_map, dig_length]; omega)) (by walk_at "ev")) .lit) (by rw [List.length_map, dig_length]; omega)) (by walk_at "ev") (by walk_at "ev") (by omega) (by omega) (by omega) (by omega) (by omega)) (fun l hl => by cases hl) ⟨dq₀, by walk_at "cov", ?_⟩ ?_ ?_)
  · rw [Nat.sub_zero, s1]
    exact .refl _
  · rintro j τ v hv ⟨dq, c1⟩
    have hj : j < K := by
      rcases Nat.lt_or_ge j K with q | q
      · exact q
      · rw [List.getElem?_eq_none (by rw [List.length_map, rng_length]; exact q)] at hv; cases hv
    obtain ⟨k, hk⟩ : ∃ k, k = K - 1 - j := ⟨_, rfl⟩
    have hks : k + s ≤ mm := by omega
    have hv' : v = .int (k : Int) := by
      rw [List.getElem?_map, rng_get hj] at hv
      cases hv
      show AV.int _ = AV.int _
      congr 1
      omega
    subst hv'
    have ekj : K - j = k + 1 := by omega
    rw [ekj] at c1
    have ekj2 : K - (j + 1) = k := by omega
    have kw : KW n s (win n Y W k) W := win_kw n0 s2 w0 w1
    have rown := row_next (k := k) (Y := Y) (len := mm + 1) n0 s2 w0 w1 (by omega)
    have quon := quo_next (n := n) (k := k) (Y := Y) hW j
    have hdig : ∀ i, i ≤ s → (dig n (stg n Y W (k + 1)) (mm + 1))[k + i]? = some (win n Y W k / 2 ^ (n * i) % 2 ^ n) := fun i hi => win_dig (by omega)
    have hl0 : (dig n (stg n Y W (k + 1)) (mm + 1)).length = mm + 1 := dig_length ..
    rw [← ekj2] at rown quon
    rw [ekj2] at rown quon
    generalize win n Y W k = U at *
    generalize hL0 : dig n (stg n Y W (k + 1)) (mm + 1) = L0 at *
    generalize hD0 : dig n (Y / (2 ^ (n * (k + 1)) * W)) j = D0 at *
    obtain ⟨t1, t2, t3⟩ := kw.top
    have hwv : ∀ i, i < s → (dig n W s)[i]? = some (W / 2 ^ (n * i) % 2 ^ n) := fun i hi => dig_get n s _ hi
    have hw1 : (dig n W s)[(dig n W s).length - 1]? = some (W / 2 ^ (n * (s - 1))) := by
      rw [hwl, hwv _ (by omega), Int.emod_eq_of_lt (by omega) t2]
    have hw2 : (dig n W s)[(dig n W s).length - 2]? = some (W / 2 ^ (n * (s - 2)) % 2 ^ n) := by
      rw [hwl, hwv _ (by omega)]
    have qW := div_mod U W
    have qm0 := emod_nn (x := U) hW
    have qm1 := emod_lt' (x := U) hW
    refine (c1.set (x := Str.ofString "k") (v := .int (k : Int))).ss ?_
    obtain ⟨Hk, hHk⟩ : ∃ Hk : AH, Hk = (dq, .list (il D0)) :: (dv, .list (il L0)) :: H₀ := ⟨_, rfl⟩
    have mv : (dv, AO.list (il L0)) ∈ Hk := by rw [hHk]; exact .tail _ (.head _)
    have mw : (aw, AO.list (il (dig n W s))) ∈ Hk := by rw [hHk]; exact .tail _ (.tail _ haw)
    rw [← hHk]
    -- head
    refine Ss.cons (St.assign (v := .int (U / 2 ^ (n * (s - 1)))) ok' rfl (Ev.cast (.add (.mul (Ev.intAt (l := L0) (k := k + s) ok' rfl rfl mv (Ev.cast (a := (k : Int) + (s : Int)) (by walk_at "ev") (by omega)) (hdig s (Nat.le_refl _)) (by omega)) (by walk_at "ev") (IntMulOk.of_le (digb _).2.2 Pb (by omega))) (Ev.intAt (l := L0) (k := k + (s - 1)) ok' rfl rfl mv (Ev.cast (a := (k : Int) + (s : Int) - 1) (by walk_at "ev") (by omega)) (hdig (s - 1) (by omega)) (by omega))) kw.head.1) ?_ rfl)
    show Ss _ _ _ _ _
    -- guess, rest
    obtain ⟨g0, hg0⟩ : ∃ g, g = U / 2 ^ (n * (s - 1)) / (W / 2 ^ (n * (s - 1))) := ⟨_, rfl⟩
    obtain ⟨r0, hr0⟩ : ∃ r, r = U / 2 ^ (n * (s - 1)) % (W / 2 ^ (n * (s - 1))) := ⟨_, rfl⟩
    have ki0 : KI n s U W g0 r0 := by rw [hg0, hr0]; exact .init kw
    refine Ss.cons (St.swap (names := [Str.ofString "guess", Str.ofString "rest"]) (Ex.tuple (R₁ := fun vs H => vs = [.int g0, .int r0] ∧ H = Hk) (EvL.toX (vs := [.int g0, .int r0]) (EvL.cons (Ev.cast (.fdiv (by walk_at "ev") (Ev.intNeg (k := 1) (l := dig n W s) ok' rfl rfl mw rfl (by omega) (by omega) hw1 (by omega)) t3 (noPyP (m := n) (by omega) (by omega) t2)) hg0.symm) (EvL.cons (Ev.cast (.mod (by walk_at "ev") (Ev.intNeg (k := 1) (l := dig n W s) ok' rfl rfl mw rfl (by omega) (by omega) hw1 (by omega)) t3) hr0.symm) EvL.nil)) ⟨rfl, rfl⟩)
      (R := fun v H => ∃ d, v = .val (.ref d) ∧ H = (d, .tup [.int g0, .int r0]) :: Hk) ?_) ?_ rfl rfl)
    · rintro vs H d ⟨rfl, rfl⟩ _
      exact ⟨Nat.le_of_ble_eq_true rfl, d, rfl, rfl⟩
    rintro v H ⟨d, rfl, rfl⟩
    refine ⟨d, _, rfl, .head _, rfl, ?_⟩
    refine Sns.name (Sn.loc ok' rfl) (Sns.name (Sn.loc ok' rfl) (Sns.nil ?_))
    show Ss _ _ _ _ _
    -- while
    refine Ss.cons (St.mono (R := fun f τ => f = .next ∧ ∃ g, U / W ≤ g ∧ g ≤ U / W + 1 ∧ 0 ≤ g ∧ g ≤ 2 ^ n + 1 ∧ Cov τ [(Str.ofString "guess", .int g), (Str.ofString "v", .val (.ref dv)), (Str.ofString "w", .val (.ref aw)), (Str.ofString "power", .int (2 ^ n)), (Str.ofString "size", .int (s : Int)), (Str.ofString "quotient", .val (.ref dq)), (Str.ofString "k", .int (k : Int))] Hk)
      (St.whileI (fun c τ => ∃ g r, KI n s U W g r ∧ c = (2 ^ n - r).toNat ∧ Cov τ [(Str.ofString "guess", .int g), (Str.ofString "rest", .int r), (Str.ofString "v", .val (.ref dv)), (Str.ofString "w", .val (.ref aw)), (Str.ofString "power", .int (2 ^ n)), (Str.ofString "size", .int (s : Int)), (Str.ofString "quotient", .val (.ref dq)), (Str.ofString "k", .int (k : Int))] Hk) ?_ (2 ^ n - r0).toNat ⟨g0, r0, ki0, rfl, by walk_at "cov", .tail⟩) ?_)
    · rintro c τ ⟨g, r, ki, hc, cv⟩
      have gb : intBits g ≤ n + 2 := bits_of ki.nn (by have := ki.hi; rw [Int.pow_add]; omega)
      refine ⟨decide (r < 2 ^ n ∧ r * 2 ^ n + U / 2 ^ (n * (s - 2)) % 2 ^ n < g * (W / 2 ^ (n * (s - 2)) % 2 ^ n)), cv.tst (Tst.and2 (t := decide (r < 2 ^ n)) (Tst.cmp (by walk_at "ev") (by walk_at "ev") rfl) (fun ht => ?_) (fun hf => ?_)), fun hb => ?_, fun hb => ?_⟩
      · have ht' := of_decide_eq_true ht
        refine Tst.cast (Tst.cmp (.mul (by walk_at "ev") (Ev.intNeg (k := 2) (l := dig n W s) ok' rfl rfl mw rfl (by omega) (by omega) hw2 (by omega)) (IntMulOk.of_le gb (digb _).2.2 (by omega))) (.add (.mul (by walk_at "ev") (by walk_at "ev") (IntMulOk.of_le (bits_of ki.r0 ht') Pb (by omega))) (Ev.intAt (l := L0) (k := k + (s - 2)) ok' rfl rfl mv (Ev.cast (a := (k : Int) + (s : Int) - 2) (by walk_at "ev") (by omega)) (hdig (s - 2) (by omega)) (by omega))) rfl) ?_
        simp [ht']
      · exact decide_eq_false fun q => of_decide_eq_false hf q.1
      · obtain ⟨h1, h2⟩ := of_decide_eq_true hb
        have ki' := ki.step kw h2
        refine cv.ss ?_
        refine Ss.cons (St.swap (names := [Str.ofString "guess", Str.ofString "rest"]) (Ex.tuple (R₁ := fun vs H => vs = [.int (g - 1), .int (r + W / 2 ^ (n * (s - 1)))] ∧ H = Hk) (EvL.toX (vs := [.int (g - 1), .int (r + W / 2 ^ (n * (s - 1)))]) (EvL.cons (by walk_at "ev") (EvL.cons (.add (by walk_at "ev") (Ev.intNeg (k := 1) (l := dig n W s) ok' rfl rfl mw rfl (by omega) (by omega) hw1 (by omega))) EvL.nil)) ⟨rfl, rfl⟩)
          (R := fun v H => ∃ d, v = .val (.ref d) ∧ H = (d, .tup [.int (g - 1), .int (r + W / 2 ^ (n * (s - 1)))]) :: Hk) ?_) ?_ rfl rfl)
        · rintro vs H d ⟨rfl, rfl⟩ _
          exact ⟨Nat.le_of_ble_eq_true rfl, d, rfl, rfl⟩
        rintro v H ⟨d, rfl, rfl⟩
        refine ⟨d, _, rfl, .head _, rfl, ?_⟩
        refine Sns.name (Sn.loc ok' rfl) (Sns.name (Sn.loc ok' rfl) (Sns.nil ?_))
        exact Ss.nil ⟨(2 ^ n - (r + W / 2 ^ (n * (s - 1)))).toNat, by omega, _, _, ki', rfl, by walk_at "cov", .tail⟩
      · obtain ⟨h1, h2⟩ := ki.done kw (of_decide_eq_false hb)
        exact ⟨rfl, g, h1, h2, ki.nn, ki.hi, List.forall_mem_cons.mpr ⟨cv.1 _ (.head _), fun p hp => cv.1 p (.tail _ (.tail _ hp))⟩, cv.2⟩
    rintro f τ ⟨rfl, g, glo, ghi, gnn, gtop, cv⟩
    show Ss _ _ _ _ _
    refine cv.ss ?_
    have gb : intBits g ≤ n + 2 := bits_of gnn (by rw [Int.pow_add]; omega)
    refine Ss.cons (St.assign (v := .int 0) ok' rfl .lit ?_ rfl)
    show Ss _ _ _ _ _
    -- the product is taken away
    have hfl : ∀ (x : Int) (i : Nat), i ≤ s → (fillD L0 k (dig n x i)).length = mm + 1 := fun x i hi => by rw [fillD_length (by rw [dig_length, hl0]; omega), hl0]
    refine Ss.cons (St.forI (items := il (rng 0 1 s)) (lk := none) (fun i τ => Cov τ [(Str.ofString "carry", .int (acc n (-g) U W i / 2 ^ (n * i))), (Str.ofString "guess", .int g), (Str.ofString "v", .val (.ref dv)), (Str.ofString "w", .val (.ref aw)), (Str.ofString "power", .int (2 ^ n)), (Str.ofString "size", .int (s : Int)), (Str.ofString "quotient", .val (.ref dq)), (Str.ofString "k", .int (k : Int))] ((dq, .list (il D0)) :: (dv, .list (il (fillD L0 k (dig n (acc n (-g) U W i) i)))) :: H₀)) ok' rfl
      (Src.range1 (n := s) (.bltn ok' rfl Lb.hr rfl (by decide)) (by walk_at "ev") (by omega)) (fun l hl => by cases hl) ⟨?_, ?_⟩ ?_ ?_)
    · rw [acc_zero, Int.zero_ediv]
      walk_at "cov"
    · rw [show dig n (acc n (-g) U W 0) 0 = [] from rfl, fillD_nil, ← hHk]
      exact .refl _
    · intro i τ v hv c2
      have hi : i < s := by
        rcases Nat.lt_or_ge i s with q | q
        · exact q
        · rw [List.getElem?_eq_none (by rw [List.length_map, rng_length]; exact q)] at hv; cases hv
      have hv' : v = .int (i : Int) := by
        rw [List.getElem?_map, rng_get hi] at hv
        cases hv
        simp
      subst hv'
      refine (c2.set (x := Str.ofString "i") (v := .int (i : Int))).ss ?_
      have hrd : (fillD L0 k (dig n (acc n (-g) U W i) i))[k + i]? = some (U / 2 ^ (n * i) % 2 ^ n) := by
        rw [fillD_hi (by rw [dig_length, hl0]; omega) (by rw [dig_length]; exact Nat.le_refl _)]
        exact hdig i (by omega)
      obtain ⟨z, hz⟩ : ∃ z, z = acc n (-g) U W (i + 1) / 2 ^ (n * i) := ⟨_, rfl⟩
      refine Ss.cons (St.assign (v := .int z) ok' rfl (Ev.cast (.sub (.add (Ev.intAt (l := fillD L0 k (dig n (acc n (-g) U W i) i)) (k := k + i) ok' rfl rfl (.tail _ (.head _)) (Ev.cast (a := (k : Int) + (i : Int)) (by walk_at "ev") (by omega)) hrd (by omega)) (by walk_at "ev")) (.mul (by walk_at "ev") (Ev.intAt (l := dig n W s) (k := i) ok' rfl rfl (.tail _ (.tail _ haw)) (by walk_at "ev") (hwv i hi) (by omega)) (IntMulOk.of_le gb (digb _).2.2 (by omega)))) (by rw [hz, acc_z, Int.neg_mul]; omega)) ?_ rfl)
      show Ss _ _ _ _ _
      refine Ss.cons (St.unpackT (Ex.tuple (R₁ := fun vs H => vs = [.int (z % 2 ^ n), .int (z / 2 ^ n)] ∧ H = (dq, .list (il D0)) :: (dv, .list (il (fillD L0 k (dig n (acc n (-g) U W i) i)))) :: H₀) (EvL.toX (vs := [.int (z % 2 ^ n), .int (z / 2 ^ n)]) (EvL.cons (.mod (by walk_at "ev") (by walk_at "ev") hP) (EvL.cons (.fdiv (by walk_at "ev") (by walk_at "ev") hP (noPyP (m := n + 1) (by omega) (by omega) Plt)) EvL.nil)) ⟨rfl, rfl⟩)
        (R := fun v H => ∃ d, v = .val (.ref d) ∧ H = (d, .tup [.int (z % 2 ^ n), .int (z / 2 ^ n)]) :: (dq, .list (il D0)) :: (dv, .list (il (fillD L0 k (dig n (acc n (-g) U W i) i)))) :: H₀) ?_) ?_ rfl rfl rfl)
      · rintro vs H d ⟨rfl, rfl⟩ _
        exact ⟨Nat.le_of_ble_eq_true rfl, d, rfl, rfl⟩
      rintro v H ⟨d, rfl, rfl⟩
      refine ⟨d, _, rfl, .head _, rfl, ?_⟩
      refine Sns.item (d := dv) (us := il (fillD L0 k (dig n (acc n (-g) U W i) i))) (k := k + i) (pre := [(d, .tup [.int (z % 2 ^ n), .int (z / 2 ^ n)]), (dq, .list (il D0))]) (post := H₀) (by walk_at "ev") (Ev.cast (a := (k : Int) + (i : Int)) (by walk_at "ev") (by omega)) rfl (by rw [List.length_map, hfl _ _ (by omega)]; omega) (by omega) (Sns.target (Sn.loc ok' rfl) (Sns.nil ?_))
      refine Ss.nil ⟨?_, ?_⟩
      · rw [← acc_carry, ← hz]
        walk_at "cov"
      · rw [← acc_dig, ← hz, ← fillD_snoc (dig_length ..) (by rw [hl0]; omega), il_set]
        exact .tail
    intro τ c2
    rw [List.length_map, rng_length] at c2
    show Ss _ _ _ _ _
    refine c2.ss ?_
    -- is it given back
    obtain ⟨Xs, hXs⟩ : ∃ Xs, Xs = acc n (-g) U W s := ⟨_, rfl⟩
    have hsgn : U / 2 ^ (n * s) % 2 ^ n + Xs / 2 ^ (n * s) = (U - g * W) / 2 ^ (n * s) := by rw [hXs]; exact kw.sign
    rw [← hXs]
    refine Ss.cons (St.mono (R := fun f τ => f = .next ∧ Cov τ [(Str.ofString "guess", .int (U / W)), (Str.ofString "v", .val (.ref dv)), (Str.ofString "w", .val (.ref aw)), (Str.ofString "power", .int (2 ^ n)), (Str.ofString "size", .int (s : Int)), (Str.ofString "quotient", .val (.ref dq)), (Str.ofString "k", .int (k : Int))] ((dq, .list (il D0)) :: (dv, .list (il (fillD L0 k (dig n (U % W) s)))) :: H₀))
      (St.ite (c := decide (U / 2 ^ (n * s) % 2 ^ n + Xs / 2 ^ (n * s) < 0)) (Tst.cmp (.add (Ev.intAt (l := fillD L0 k (dig n Xs s)) (k := k + s) ok' rfl rfl (.tail _ (.head _)) (Ev.cast (a := (k : Int) + (s : Int)) (by walk_at "ev") (by omega)) (by rw [fillD_hi (by rw [dig_length, hl0]; omega) (by rw [dig_length]; exact Nat.le_refl _)]; exact hdig s (Nat.le_refl _)) (by omega)) (by walk_at "ev")) .lit rfl) (fun hc => ?_) (fun hc => ?_)) ?_)
    · have hc' := of_decide_eq_true hc
      rw [hsgn, neg_div (kbt_pos _)] at hc'
      have hg : g = U / W + 1 := by
        rcases Int.lt_or_le (U / W) g with q | q
        · omega
        · have : g = U / W := by omega
          rw [this] at hc'
          omega
      subst hg
      refine Ss.cons (St.swap (names := [Str.ofString "guess", Str.ofString "carry"]) (Ex.tuple (R₁ := fun vs H => vs = [.int (U / W), .int 0] ∧ H = (dq, .list (il D0)) :: (dv, .list (il (fillD L0 k (dig n Xs s)))) :: H₀) (EvL.toX (vs := [.int (U / W), .int 0]) (EvL.cons (Ev.cast (a := U / W + 1 - 1) (by walk_at "ev") (by omega)) (EvL.cons .lit EvL.nil)) ⟨rfl, rfl⟩)
        (R := fun v H => ∃ d, v = .val (.ref d) ∧ H = (d, .tup [.int (U / W), .int 0]) :: (dq, .list (il D0)) :: (dv, .list (il (fillD L0 k (dig n Xs s)))) :: H₀) ?_) ?_ rfl rfl)
      · rintro vs H d ⟨rfl, rfl⟩ _
        exact ⟨Nat.le_of_ble_eq_true rfl, d, rfl, rfl⟩
      rintro v H ⟨d, rfl, rfl⟩
      refine ⟨d, _, rfl, .head _, rfl, ?_⟩
      refine Sns.name (Sn.loc ok' rfl) (Sns.name (Sn.loc ok' rfl) (Sns.nil ?_))
      show Ss _ _ _ _ _
      have hl1 : (fillD L0 k (dig n Xs s)).length = mm + 1 := hfl Xs s (Nat.le_refl _)
      have hdig1 : ∀ i, i < s → (fillD L0 k (dig n Xs s))[k + i]? = some (Xs / 2 ^ (n * i) % 2 ^ n) := fun i hi => by
        rw [fillD_in (by omega) (by rw [dig_length]; exact hi), dig_get n s _ hi]
      have hover : ∀ x : Int, fillD (fillD L0 k (dig n Xs s)) k (dig n x s) = fillD L0 k (dig n x s) := fun x => fillD_over (by rw [dig_length, dig_length]) (by rw [dig_length]; omega)
      generalize fillD L0 k (dig n Xs s) = L1 at *
      refine Ss.cons (St.forI (items := il (rng 0 1 s)) (lk := none) (fun i τ => Cov τ [(Str.ofString "carry", .int (acc n 1 Xs W i / 2 ^ (n * i))), (Str.ofString "guess", .int (U / W)), (Str.ofString "v", .val (.ref dv)), (Str.ofString "w", .val (.ref aw)), (Str.ofString "power", .int (2 ^ n)), (Str.ofString "size", .int (s : Int)), (Str.ofString "quotient", .val (.ref dq)), (Str.ofString "k", .int (k : Int))] ((dq, .list (il D0)) :: (dv, .list (il (fillD L1 k (dig n (acc n 1 Xs W i) i)))) :: H₀)) ok' rfl
        (Src.range1 (n := s) (.bltn ok' rfl Lb.hr rfl (by decide)) (by walk_at "ev") (by omega)) (fun l hl => by cases hl) ⟨?_, ?_⟩ ?_ ?_)
      · rw [acc_zero, Int.zero_ediv]
        walk_at "cov"
      · rw [show dig n (acc n 1 Xs W 0) 0 = [] from rfl, fillD_nil]
        exact .tail
      · intro i τ v hv c3
        have hi : i < s := by
          rcases Nat.lt_or_ge i s with q | q
          · exact q
          · rw [List.getElem?_eq_none (by rw [List.length_map, rng_length]; exact q)] at hv; cases hv
        have hv' : v = .int (i : Int) := by
          rw [List.getElem?_map, rng_get hi] at hv
          cases hv
          simp
        subst hv'
        refine (c3.set (x := Str.ofString "i") (v := .int (i : Int))).ss ?_
        have hrd : (fillD L1 k (dig n (acc n 1 Xs W i) i))[k + i]? = some (Xs / 2 ^ (n * i) % 2 ^ n) := by
          rw [fillD_hi (by rw [dig_length, hl1]; omega) (by rw [dig_length]; exact Nat.le_refl _)]
          exact hdig1 i hi
        obtain ⟨z, hz⟩ : ∃ z, z = acc n 1 Xs W (i + 1) / 2 ^ (n * i) := ⟨_, rfl⟩
        refine Ss.cons (St.assign (v := .int z) ok' rfl (Ev.cast (.add (.add (Ev.intAt (l := fillD L1 k (dig n (acc n 1 Xs W i) i)) (k := k + i) ok' rfl rfl (.tail _ (.head _)) (Ev.cast (a := (k : Int) + (i : Int)) (by walk_at "ev") (by omega)) hrd (by omega)) (by walk_at "ev")) (Ev.intAt (l := dig n W s) (k := i) ok' rfl rfl (.tail _ (.tail _ haw)) (by walk_at "ev") (hwv i hi) (by omega))) (by rw [hz, acc_z, Int.one_mul])) ?_ rfl)
        show Ss _ _ _ _ _
        refine Ss.cons (St.unpackT (Ex.tuple (R₁ := fun vs H => vs = [.int (z % 2 ^ n), .int (z / 2 ^ n)] ∧ H = (dq, .list (il D0)) :: (dv, .list (il (fillD L1 k (dig n (acc n 1 Xs W i) i)))) :: H₀) (EvL.toX (vs := [.int (z % 2 ^ n), .int (z / 2 ^ n)]) (EvL.cons (.mod (by walk_at "ev") (by walk_at "ev") hP) (EvL.cons (.fdiv (by walk_at "ev") (by walk_at "ev") hP (noPyP (m := n + 1) (by omega) (by omega) Plt)) EvL.nil)) ⟨rfl, rfl⟩)
          (R := fun v H => ∃ d, v = .val (.ref d) ∧ H = (d, .tup [.int (z % 2 ^ n), .int (z / 2 ^ n)]) :: (dq, .list (il D0)) :: (dv, .list (il (fillD L1 k (dig n (acc n 1 Xs W i) i)))) :: H₀) ?_) ?_ rfl rfl rfl)
        · rintro vs H d ⟨rfl, rfl⟩ _
          exact ⟨Nat.le_of_ble_eq_true rfl, d, rfl, rfl⟩
        rintro v H ⟨d, rfl, rfl⟩
        refine ⟨d, _, rfl, .head _, rfl, ?_⟩
        refine Sns.item (d := dv) (us := il (fillD L1 k (dig n (acc n 1 Xs W i) i))) (k := k + i) (pre := [(d, .tup [.int (z % 2 ^ n), .int (z / 2 ^ n)]), (dq, .list (il D0))]) (post := H₀) (by walk_at "ev") (Ev.cast (a := (k : Int) + (i : Int)) (by walk_at "ev") (by omega)) rfl (by rw [List.length_map, fillD_length (by rw [dig_length, hl1]; omega), hl1]; omega) (by omega) (Sns.target (Sn.loc ok' rfl) (Sns.nil ?_))
        refine Ss.nil ⟨?_, ?_⟩
        · rw [← acc_carry, ← hz]
          walk_at "cov"
        · rw [← acc_dig, ← hz, ← fillD_snoc (dig_length ..) (by rw [hl1]; omega), il_set]
          exact .tail
      · intro τ c3
        rw [List.length_map, rng_length, hover, hXs, kw.back] at c3
        exact Ss.nil ⟨rfl, fun p hp => c3.1 p (.tail _ hp), c3.2⟩
    · have hc' := of_decide_eq_false hc
      rw [hsgn, neg_div (kbt_pos _)] at hc'
      have hg : g = U / W := by
        rcases Int.lt_or_le (U / W) g with q | q
        · have : g = U / W + 1 := by omega
          rw [this, Int.add_mul, Int.one_mul] at hc'
          omega
        · omega
      subst hg
      refine Ss.nil ⟨rfl, by walk_at "cov", ?_⟩
      rw [hXs, kw.plain]
      exact .refl _
    rintro f τ ⟨rfl, c3⟩
    show Ss _ _ _ _ _
    refine c3.ss ?_
    refine Ss.cons (St.setItem (d := dv) (vs := il (fillD L0 k (dig n (U % W) s))) (k := k + s) (v := .int 0) (pre := [(dq, .list (il D0))]) (post := H₀) .lit (by walk_at "ev") (Ev.cast (a := (k : Int) + (s : Int)) (by walk_at "ev") (by omega)) rfl (by rw [List.length_map, hfl _ _ (Nat.le_refl _)]; omega) (by omega) ?_ rfl)
    show Ss _ _ _ _ _
    refine Ss.cons (St.assignL (R' := fun v H => ∃ d g1, v = .val (.ref d) ∧ H = (d, .list (il (U / W :: D0))) :: g1 :: ([(dq, .list (il D0))] ++ (dv, .list ((il (fillD L0 k (dig n (U % W) s))).set (k + s) (.int 0))) :: H₀)) ok' rfl (Ex.addList (R₁ := fun v H => ∃ d, v = .val (.ref d) ∧ H = (d, .list (il [U / W])) :: ([(dq, .list (il D0))] ++ (dv, .list ((il (fillD L0 k (dig n (U % W) s))).set (k + s) (.int 0))) :: H₀)) (Ex.list (R₁ := fun vs H => vs = il [U / W] ∧ H = [(dq, .list (il D0))] ++ (dv, .list ((il (fillD L0 k (dig n (U % W) s))).set (k + s) (.int 0))) :: H₀) (EvL.toX (vs := il [U / W]) (EvL.cons (by walk_at "ev") EvL.nil) ⟨rfl, rfl⟩) ?_) ?_) ?_ rfl)
    · rintro vs H d ⟨rfl, rfl⟩ _
      exact ⟨Nat.le_of_ble_eq_true rfl, d, rfl, rfl⟩
    · rintro v H ⟨d, rfl, rfl⟩
      refine Ev.toEx (v := .val (.ref dq)) (by walk_at "ev") ⟨d, dq, il [U / W], il D0, rfl, rfl, .inl (.head _), .inl (.tail _ (.head _)), ?_, fun d2 _ => ⟨d2, _, rfl, rfl⟩⟩
      rw [List.length_map, List.length_map, ← hD0, dig_length]
      simp
      omega
    rintro v H ⟨dq', g1, rfl, rfl⟩
    refine Ss.nil ⟨dq', by walk_at "cov", ?_⟩
    rw [ekj2, ← rown, ← quon, il_set]
    exact .cons (.drop .tail)
  rintro τ ⟨dq, c1⟩
  rw [List.length_map, rng_length, Nat.sub_self, stg_zero, Nat.mul_zero, Int.pow_zero, Int.one_mul] at c1
  show Ss _ _ _ _ _
  refine c1.ss ?_
  have Yq : Y / W < 2 ^ (n * K) := div_lt hW s1''
  have Yq0 : 0 ≤ Y / W := div_nn y0 hW
  have Yr0 : 0 ≤ Y % W := emod_nn hW
  have Yr1 : Y % W < W := emod_lt' hW
  have Yr2 : Y % W ≤ Y := by
    have := div_mod Y W
    have : 0 ≤ Y / W * W := Int.mul_nonneg Yq0 (by omega)
    omega
  have Yr : Y % W < 2 ^ (n * min s (mm + 1)) := by
    rcases Nat.le_total s (mm + 1) with q | q
    · rw [Nat.min_eq_left q]; omega
    · rw [Nat.min_eq_right q]
      have : (2 : Int) ^ (n * mm) ≤ 2 ^ (n * (mm + 1)) := pow_mono (Nat.mul_le_mul_left _ (by omega))
      omega
  refine Ss.cons (St.retX (R' := fun v H => ∃ dt d1 d2, v = .val (.ref dt) ∧ H = (dt, .tup [.val (.ref d1), .val (.ref d2)]) :: (d2, .list (il (i2d n (Y % W)))) :: (d1, .list (il (i2d n (Y / W)))) :: (dv, .list (il (dig n (Y % W) (mm + 1)))) :: H₀)
    (Ex.tuple (R₁ := fun vs H => ∃ d1 d2, vs = [.val (.ref d1), .val (.ref d2)] ∧ H = (d2, .list (il (i2d n (Y % W)))) :: (d1, .list (il (i2d n (Y / W)))) :: (dv, .list (il (dig n (Y % W) (mm + 1)))) :: H₀)
      (ExL.cons (R₁ := fun v H => ∃ d1, v = .val (.ref d1) ∧ H = (d1, .list (il (i2d n (Y / W)))) :: (dv, .list (il (dig n (Y % W) (mm + 1)))) :: H₀)
        (Ex.callK ok' (Ev.glob ok' rfl Lb.hC.ns rfl) Lb.hC.keep (EvL.toX (vs := [.val (.ref dq)]) (EvL.cons (by walk_at "ev") EvL.nil) (cut_spec Lb _ _ n K (Y / W) dq _ _ ok' n0 (by omega) Yq0 Yq hd hu fun d => ⟨d, rfl, rfl⟩)) rfl rfl) ?_) ?_) ?_)
  · rintro v H ⟨d1, rfl, rfl⟩
    refine ExL.cons (R₁ := fun v H => ∃ d2, v = .val (.ref d2) ∧ H = (d2, .list (il (i2d n (Y % W)))) :: (d1, .list (il (i2d n (Y / W)))) :: (dv, .list (il (dig n (Y % W) (mm + 1)))) :: H₀)
      (Ex.callK ok' (Ev.glob ok' rfl Lb.hC.ns rfl) Lb.hC.keep (ExL.cons (R₁ := fun v H => ∃ dx, v = .val (.ref dx) ∧ H = (dx, .list (il (dig n (Y % W) (min s (mm + 1))))) :: (d1, .list (il (i2d n (Y / W)))) :: (dv, .list (il (dig n (Y % W) (mm + 1)))) :: H₀) (Ex.slice (a := none) (b := some (s : Int)) (R₁ := fun v H => v = .val (.ref dv) ∧ H = (d1, .list (il (i2d n (Y / W)))) :: (dv, .list (il (dig n (Y % W) (mm + 1)))) :: H₀) (Ev.toEx (v := .val (.ref dv)) (by walk_at "ev") ⟨rfl, rfl⟩) ?_) ?_) rfl rfl) ?_
    · rintro v H ⟨rfl, rfl⟩
      refine ⟨dv, il (dig n (Y % W) (mm + 1)), rfl, .inl (.tail _ (.head _)), by rw [List.length_map, dig_length]; omega, Part.none, Part.some (by walk_at "ev"), fun dx _ => ⟨dx, rfl, ?_⟩⟩
      rw [sliceV_il, sliceV_upto, dig_take]
    · rintro v H ⟨dx, rfl, rfl⟩
      exact ExL.nil (cut_spec Lb _ _ n (min s (mm + 1)) (Y % W) dx _ _ ok' n0 (by omega) Yr0 Yr hd hu fun d => ⟨d, rfl, rfl⟩)
    · rintro v H ⟨d2, rfl, rfl⟩
      exact ExL.nil ⟨d1, d2, rfl, rfl⟩
  · rintro vs H dt ⟨d1, d2, rfl, rfl⟩ _
    exact ⟨Nat.le_of_ble_eq_true rfl, dt, d1, d2, rfl, rfl⟩
  · rintro v H ⟨dt, d1, d2, rfl, rfl⟩
    refine ⟨dt, d1, d2, rfl, .cons ?_⟩
    exact (Sub.perm (List.Perm.swap ..)).trans (.cons (.cons .tail))
end Mine
namespace Mine
open PySem PySem.W PyProof.Rows PySem.Spec PySem.Calls
open PySem.Builtin.Int (intBits)
local macro_rules | `(tactic| walk_at "cov") => `(tactic| first | exact List.forall_mem_nil _ | (refine List.forall_mem_cons.mpr ⟨rfl, ?_⟩; walk_at "cov"))
local macro_rules | `(tactic| walk_at "ev") => `(tactic| first
  | with_reducible exact Ev.lit
  | (with_reducible refine Ev.loc (by assumption) ?_ ?_ ?_) <;> rfl
  | ((with_reducible refine Ev.add ?_ ?_) <;> walk_at "ev")
  | ((with_reducible refine Ev.sub ?_ ?_) <;> walk_at "ev")
  | ((with_reducible refine Ev.neg ?_) <;> walk_at "ev"))
/-- how far both are moved up -/
theorem up_size {n w : Nat} (hn : 1 ≤ n) (hw : 1 ≤ w) : ∃ u s : Nat, (u : Int) = -(n : Int) % (w : Int) + (w : Int) ∧ w * s = n + u ∧ 2 ≤ s ∧ w ≤ u ∧ u < 2 * w := by
  have hW : 0 < (w : Int) := by omega
  have h1 := div_mod (-(n : Int)) (w : Int)
  have h2 := emod_nn (x := -(n : Int)) hW
  have h3 := emod_lt' (x := -(n : Int)) hW
  obtain ⟨t, ht⟩ : ∃ t, t = -(-(n : Int) / (w : Int)) := ⟨_, rfl⟩
  obtain ⟨r, hr⟩ : ∃ r, r = -(n : Int) % (w : Int) := ⟨_, rfl⟩
  have h4 : (n : Int) + r = t * (w : Int) := by
    rw [ht, hr, Int.neg_mul]
    omega
  rw [← hr] at h2 h3 ⊢
  have t1 : 1 ≤ t := by
    rcases Int.lt_or_le t 1 with q | q
    · have : t * (w : Int) ≤ 0 := Int.mul_nonpos_of_nonpos_of_nonneg (by omega) (by omega)
      omega
    · exact q
  refine ⟨(r + w).toNat, (t + 1).toNat, by omega, ?_, by omega, by omega, by omega⟩
  have : ((w * (t + 1).toNat : Nat) : Int) = ((n + (r + w).toNat : Nat) : Int) := by
    rw [Int.natCast_mul, Int.natCast_add, Int.toNat_of_nonneg (by omega), Int.toNat_of_nonneg (by omega), Int.mul_add, Int.mul_one, Int.mul_comm]
    omega
  exact_mod_cast this
set_option maxHeartbeats 4000000
theorem law1 {G : GX} {ts : List TI} (Lb : Lib G) (Li : LibI G ts) (Ls : LibS G) (X : FX) (A : Addr) (ns : List Int) (T : AH) (ok : X.Ok G) (hcs : X.cs = scopeAt thePw 8) (hcl : X.cl = []) (hdp : X.dp = 302) (hun : X.un = 7)
    (hl : ∀ H, LAt X H A (il ns)) (hlen : ns.length ≤ 63) (hb : ∀ n ∈ ns, intBits n ≤ 2 ^ 20) (hT : TabsOk ts T) :
    Ss G X ⟨[(Str.ofString "script", .val (.ref A))], T⟩ (bodyAt thePw 8) fun f σ' => f = .ret (.val (.bool true)) ∧ ∃ T', TabsOk ts T' ∧ Sub T' σ'.H := by
  obtain ⟨dp, un, gd, cn, cs, L, a, ccd, cl, outer, A₀, base, h₀⟩ := X
  simp only at hcs hcl hdp hun
  subst hcs hcl hdp hun
  have hd : (302 : Nat) + 40 < recursionLimit := by decide
  obtain ⟨c0, c1, c2, c3, hc⟩ : ∃ c0 c1 c2 c3, headL ns [0, 0, 1, 0] = [c0, c1, c2, c3] := by
    have h := headL_length ns [0, 0, 1, 0]
    match headL ns [0, 0, 1, 0], h with
    | [c0, c1, c2, c3], _ => exact ⟨c0, c1, c2, c3, rfl⟩
  have hcb : ∀ n ∈ headL ns [0, 0, 1, 0], intBits n ≤ 2 ^ 20 := headL_bits hb (by decide)
  rw [hc] at hcb
  refine Ss.cons (St.unpackL (head_ex (A := A) (ns := ns) (ds := [0, 0, 1, 0]) (K := 4) hl hlen rfl (by decide) (fun H => by walk_at "ev") (fun H => Ev.cast (Ev.len (a := A) (vs := il ns) (.bltn ok rfl Li.hlen rfl (by decide)) (by walk_at "ev") (hl _) (by simp; omega)) (by simp)) (fun H => .lit) (EvL.cons .lit (EvL.cons .lit (EvL.cons .lit (EvL.cons .lit EvL.nil))))) ?_ rfl rfl rfl)
  rintro v H ⟨d, rfl, rfl⟩
  refine ⟨d, _, rfl, .inl (.head _), by rw [hc]; rfl, ?_⟩
  rw [hc]
  refine Sns.target (Sn.loc ok rfl) (Sns.target (Sn.loc ok rfl) (Sns.target (Sn.loc ok rfl) (Sns.target (Sn.loc ok rfl) (Sns.nil ?_))))
  show Ss _ _ _ _ _
  refine Cov.ss (m := [(Str.ofString "script", .val (.ref A)), (Str.ofString "first", .int c0), (Str.ofString "wide", .int c1), (Str.ofString "upper", .int c2), (Str.ofString "lower", .int c3)]) (H := T) ⟨by walk_at "cov", Sub.tail⟩ ?_
  obtain ⟨n, hn⟩ : ∃ n : Nat, (n : Int) = 1 + (4301 + c0) % 9000 := ⟨(1 + (4301 + c0) % 9000).toNat, by have := emod_nn (x := 4301 + c0) (y := 9000) (by decide); omega⟩
  have n1 : 1 ≤ n ∧ n ≤ 9000 := by
    have := emod_nn (x := 4301 + c0) (y := 9000) (by decide)
    have := emod_lt' (x := 4301 + c0) (y := 9000) (by decide)
    omega
  refine Ss.cons (St.assign (v := .int (n : Int)) ok rfl (Ev.cast (.add .lit (.mod (.add .lit (by walk_at "ev")) .lit (by decide))) hn.symm) ?_ rfl)
  show Ss _ _ _ _ _
  obtain ⟨w, hw⟩ : ∃ w : Nat, (w : Int) = 900 + (1251 + c1) % 2100 := ⟨(900 + (1251 + c1) % 2100).toNat, by have := emod_nn (x := 1251 + c1) (y := 2100) (by decide); omega⟩
  have w1 : 900 ≤ w ∧ w ≤ 2999 := by
    have := emod_nn (x := 1251 + c1) (y := 2100) (by decide)
    have := emod_lt' (x := 1251 + c1) (y := 2100) (by decide)
    omega
  refine Ss.cons (St.assign (v := .int (w : Int)) ok rfl (Ev.cast (.add .lit (.mod (.add .lit (by walk_at "ev")) .lit (by decide))) hw.symm) ?_ rfl)
  show Ss _ _ _ _ _
  have b1 := bits1
  have b2 : intBits 2 = 2 := by decide
  obtain ⟨hh, hhh⟩ : ∃ hh : Int, hh = 2 ^ (n / 2) := ⟨_, rfl⟩
  have hh0 : 0 < hh := by rw [hhh]; exact kbt_pos _
  have hhb : intBits (hh + 1) ≤ n / 2 + 2 := bits_of (by omega) (by rw [hhh, Int.pow_add]; have := kbt_pos (n / 2); omega)
  have hhb' : intBits hh ≤ n / 2 + 1 := bits_of (by omega) (by rw [hhh, Int.pow_succ]; have := kbt_pos (n / 2); omega)
  refine Ss.cons (St.assign (v := .int hh) ok rfl (Ev.cast (.pow (n := n / 2) .lit (Ev.cast (a := (n : Int) / 2) (.fdiv (by walk_at "ev") .lit (by decide) (noPy (by decide))) (by omega)) (by rw [b2]; omega)) hhh.symm) ?_ rfl)
  show Ss _ _ _ _ _
  obtain ⟨hf, hhf⟩ : ∃ hf : Int, hf = 2 ^ (n - 1) := ⟨_, rfl⟩
  have hf0 : 0 < hf := by rw [hhf]; exact kbt_pos _
  obtain ⟨b, hbd⟩ : ∃ b : Int, b = hf + (c2 * hh - 1 - c3) % hf := ⟨_, rfl⟩
  have bb : hf ≤ b ∧ b < 2 * hf := by
    have := emod_nn (x := c2 * hh - 1 - c3) hf0
    have := emod_lt' (x := c2 * hh - 1 - c3) hf0
    omega
  have b0 : 0 < b := by omega
  have hP : 2 * hf = 2 ^ n := by rw [hhf, show n = (n - 1) + 1 from by omega, Int.pow_succ]; simp; omega
  have bc2 := hcb c2 (by simp)
  have ehf : ∀ (τ : AS) (p1 p2 p3 p4 p5 : Pos) (k k2 : Nat), τ.m.lookup (Str.ofString "n") = some (.int (n : Int)) → Ev G ⟨302, 7, gd, cn, scopeAt thePw 8, L, a, ccd, [], outer, A₀, base, h₀⟩ τ (.BinOp (.Constant (.int 2) k p1) .Pow (.BinOp (.Name (Str.ofString "n") p2) .Sub (.Constant (.int 1) k2 p3) p4) p5) (.int hf) := by
    intro τ p1 p2 p3 p4 p5 k k2 h
    exact Ev.cast (.pow (n := n - 1) .lit (Ev.cast (a := (n : Int) - 1) (.sub (.loc ok rfl h) .lit) (by omega)) (by rw [b2]; omega)) hhf.symm
  refine Ss.cons (St.assign (v := .int b) ok rfl (Ev.cast (.add (ehf _ _ _ _ _ _ _ _ rfl) (.mod (.sub (.sub (.mul (by walk_at "ev") (by walk_at "ev") (IntMulOk.of_le bc2 hhb' (by omega))) .lit) (by walk_at "ev")) (ehf _ _ _ _ _ _ _ _ rfl) hf0)) hbd.symm) ?_ rfl)
  show Ss _ _ _ _ _
  obtain ⟨row, hrow⟩ : ∃ row, row = [2, 0] ++ (ns.drop 4).take 4 := ⟨_, rfl⟩
  have hrl : 2 ≤ row.length ∧ row.length ≤ 6 := by rw [hrow]; simp; omega
  have hrb : ∀ x ∈ row, intBits x ≤ 2 ^ 20 := by
    intro x hx
    rw [hrow] at hx
    rcases List.mem_append.mp hx with q | q
    · have : ∀ y ∈ ([2, 0] : List Int), intBits y ≤ 2 ^ 20 := by decide
      exact this x q
    · exact hb x (List.mem_of_mem_drop (List.mem_of_mem_take q))
  refine Ss.cons (St.assignL ok rfl (Ex.sub (R' := fun v H => ∃ d, v = .val (.ref d) ∧ H = (d, .list (il row)) :: T) (Ex.addList (R₁ := fun v H => ∃ d, v = .val (.ref d) ∧ H = (d, .list (il [2, 0])) :: T) (R := fun v H => ∃ d g1 g2, v = .val (.ref d) ∧ H = (d, .list (il row)) :: g1 :: g2 :: T) (Ex.list (R₁ := fun vs H => vs = il [2, 0] ∧ H = T) (EvL.toX (vs := il [2, 0]) (EvL.cons .lit (EvL.cons .lit EvL.nil)) ⟨rfl, rfl⟩) ?_) ?_) ?_) ?_ rfl)
  · rintro vs H d ⟨rfl, rfl⟩ _
    exact ⟨Nat.le_of_ble_eq_true rfl, d, rfl, rfl⟩
  · rintro v H ⟨d, rfl, rfl⟩
    refine Ex.slice (a := some ((4 : Nat) : Int)) (b := some ((8 : Nat) : Int)) (R₁ := fun v H => v = .val (.ref A) ∧ H = (d, .list (il [2, 0])) :: T) (Ev.toEx (v := .val (.ref A)) (by walk_at "ev") ⟨rfl, rfl⟩) ?_
    rintro v H ⟨rfl, rfl⟩
    refine ⟨A, il ns, rfl, hl _, by simp; omega, Part.some (.lit), Part.some .lit, fun d2 _ => ⟨d, d2, il [2, 0], il ((ns.drop 4).take 4), rfl, rfl, .inl (.tail _ (.head _)), .inl ?_, by simp; omega, fun d3 _ => ⟨d3, _, _, rfl, by rw [hrow, il_append]⟩⟩⟩
    rw [sliceV_il, sliceV_run _ _ _ (by decide)]
    exact .head _
  · rintro v H ⟨d, g1, g2, rfl, rfl⟩
    exact ⟨_, .cons (.drop .tail), d, rfl, rfl⟩
  rintro v H ⟨dr, rfl, rfl⟩
  show Ss _ _ _ _ _
  obtain ⟨u, s, hu, hws, s2, u1, u2⟩ := up_size (n := n) (w := w) n1.1 (by omega)
  refine Ss.cons (St.assign (v := .int (u : Int)) ok rfl (Ev.cast (.add (.mod (.neg (by walk_at "ev")) (by walk_at "ev") (by omega)) (by walk_at "ev")) hu.symm) ?_ rfl)
  show Ss _ _ _ _ _
  have hU := kbt_pos u
  have sb : s ≤ 500 := by
    rcases Nat.lt_or_ge 500 s with q | q
    · have : 900 * 501 ≤ w * s := Nat.mul_le_mul w1.1 q
      omega
    · exact q
  have wW0 : 2 ^ (w * s) ≤ 2 * (b * 2 ^ u) := by
    have : hf * 2 ^ u ≤ b * 2 ^ u := Int.mul_le_mul_of_nonneg_right bb.1 (by omega)
    rw [hws, Int.pow_add, ← hP, Int.mul_assoc]
    omega
  have wW1 : b * 2 ^ u < 2 ^ (w * s) := by
    rw [hws, Int.pow_add, ← hP]
    exact Int.mul_lt_mul_of_pos_right bb.2 hU
  have wW2 : i2d w (b * 2 ^ u) = dig w (b * 2 ^ u) s := by
    have e : s = (s - 1) + 1 := by omega
    have e2 : w * s = w * (s - 1) + w := by rw [← Nat.mul_succ]; congr 1
    rw [e]
    refine i2d_eq (by omega) ?_ (by rw [← e]; exact wW1)
    have p2 : (2 : Int) ≤ 2 ^ w := pow_ge2 (by omega)
    have : (2 : Int) ^ (w * (s - 1)) * 2 ≤ 2 ^ (w * (s - 1)) * 2 ^ w := Int.mul_le_mul_of_nonneg_left p2 (Int.le_of_lt (kbt_pos _))
    rw [e2, Int.pow_add] at wW0
    omega
  have bu0 : 0 < b * 2 ^ u := Int.mul_pos b0 hU
  have bub : intBits (b * 2 ^ u) ≤ 2 ^ 16 := bits_mono (bits_of (by omega) wW1) (by omega)
  refine Cov.ss (m := [(Str.ofString "n", .int (n : Int)), (Str.ofString "b", .int b), (Str.ofString "half", .int hh), (Str.ofString "width", .int (w : Int)), (Str.ofString "up", .int (u : Int)), (Str.ofString "row", .val (.ref dr))]) (H := T ++ [(dr, AO.list (il row))]) ⟨by walk_at "cov", Sub.perm (show List.Perm ((dr, AO.list (il row)) :: T) _ from List.perm_append_comm (l₁ := [(dr, AO.list (il row))]) (l₂ := T))⟩ ?_
  refine Ss.cons (St.forI (items := il (rng 0 1 row.length)) (lk := none) (fun i τ => ∃ T', TabsOk ts T' ∧ Cov τ [(Str.ofString "n", .int (n : Int)), (Str.ofString "b", .int b), (Str.ofString "half", .int hh), (Str.ofString "width", .int (w : Int)), (Str.ofString "up", .int (u : Int)), (Str.ofString "row", .val (.ref dr))] (T' ++ [(dr, .list (il row))])) ok rfl
    (Src.range1 (.bltn ok rfl Ls.hr rfl (by decide)) (Ev.cast (Ev.len (a := dr) (vs := il row) (.bltn ok rfl Li.hlen rfl (by decide)) (by walk_at "ev") (.inl (by simp)) (by simp; omega)) (by simp)) (by omega)) (fun l hl => by cases hl) ⟨T, hT, by walk_at "cov", Sub.refl _⟩ ?_ ?_)
  · rintro i τ v hv ⟨T', hT', c⟩
    have hi : i < row.length := by
      rcases Nat.lt_or_ge i row.length with q | q
      · exact q
      · rw [List.getElem?_eq_none (by rw [List.length_map, rng_length]; exact q)] at hv; cases hv
    have hv' : v = .int (i : Int) := by
      rw [List.getElem?_map, rng_get hi] at hv
      cases hv
      simp
    subst hv'
    refine (c.set (x := Str.ofString "i") (v := .int (i : Int))).ss ?_
    have bn : b < 2 ^ n := by omega
    obtain ⟨ri, hri⟩ : ∃ ri, row[i]? = some ri := ⟨_, List.getElem?_eq_getElem hi⟩
    have rib := hrb ri (List.mem_of_getElem? hri)
    obtain ⟨rj, hrj⟩ : ∃ rj : Int, ∀ (p1 p2 p3 p4 p5 : Pos) (kk : Nat), Ev G ⟨302, 7, gd, cn, scopeAt thePw 8, L, a, ccd, [], outer, A₀, base, h₀⟩ ⟨[(Str.ofString "i", .int (i : Int)), (Str.ofString "n", .int (n : Int)), (Str.ofString "b", .int b), (Str.ofString "half", .int hh), (Str.ofString "width", .int (w : Int)), (Str.ofString "up", .int (u : Int)), (Str.ofString "row", .val (.ref dr))], T' ++ [(dr, .list (il row))]⟩ (.Subscript (.Name (Str.ofString "row") p1) (.BinOp (.Name (Str.ofString "i") p2) .Sub (.Constant (.int 1) kk p3) p4) p5) (.int rj) := by
      rcases Nat.eq_zero_or_pos i with q | q
      · subst q
        refine ⟨row[row.length - 1]'(by omega), fun p1 p2 p3 p4 p5 kk => ?_⟩
        exact Ev.itemNeg (k := 1) (a := dr) (vs := il row) (by walk_at "ev") (Ev.cast (a := ((0 : Nat) : Int) - 1) (by walk_at "ev") (by decide)) (.inl (by simp)) (by decide) (by simp; omega) (by simp [List.getElem?_eq_getElem (show row.length - 1 < row.length by omega)]) (by decide)
      · refine ⟨row[i - 1]'(by omega), fun p1 p2 p3 p4 p5 kk => ?_⟩
        exact Ev.item (k := i - 1) (a := dr) (vs := il row) (by walk_at "ev") (Ev.cast (a := (i : Int) - 1) (by walk_at "ev") (by omega)) (.inl (by simp)) (by simp [List.getElem?_eq_getElem (show i - 1 < row.length by omega)]) (by omega)
    obtain ⟨Q, hQ⟩ : ∃ Q : Int, Q = (-1 - ri * (hh + 1)) % 2 ^ n := ⟨_, rfl⟩
    have hPn := kbt_pos n
    have Q0 : 0 ≤ Q := by rw [hQ]; exact emod_nn hPn
    have Q1 : Q < 2 ^ n := by rw [hQ]; exact emod_lt' hPn
    obtain ⟨r0, hr0⟩ : ∃ r : Int, r = (-1 - rj) % b := ⟨_, rfl⟩
    have r00 : 0 ≤ r0 := by rw [hr0]; exact emod_nn b0
    have r01 : r0 < b := by rw [hr0]; exact emod_lt' b0
    obtain ⟨av, hav⟩ : ∃ av : Int, av = Q * b + r0 := ⟨_, rfl⟩
    have m0 : 0 ≤ Q * b := Int.mul_nonneg Q0 (by omega)
    have a0 : 0 ≤ av := by omega
    have a1 : av < 2 ^ n * b := by
      have : (Q + 1) * b ≤ 2 ^ n * b := Int.mul_le_mul_of_nonneg_right (by omega) (by omega)
      rw [Int.add_mul, Int.one_mul] at this
      omega
    have bbits : intBits b ≤ n := bits_of (by omega) bn
    refine Ss.cons (St.assign (v := .int av) ok rfl (Ev.cast (.add (.mul (Ev.cast (.mod (.sub (.neg .lit) (.mul (Ev.item (k := i) (a := dr) (vs := il row) (by walk_at "ev") (by walk_at "ev") (.inl (by simp)) (by simp [hri]) (by omega)) (by walk_at "ev") (IntMulOk.of_le rib hhb (by omega)))) (.pow (n := n) .lit (by walk_at "ev") (by rw [b2]; omega)) hPn) hQ.symm) (by walk_at "ev") (IntMulOk.of_le (bits_of Q0 Q1) bbits (by omega))) (Ev.cast (.mod (.sub (.neg .lit) (hrj _ _ _ _ _ _)) (by walk_at "ev") b0) hr0.symm)) hav.symm) ?_ rfl)
    show Ss _ _ _ _ _
    -- q, r
    refine Ss.cons (St.unpackT (R₁ := fun v H => ∃ dt, v = .val (.ref dt) ∧ H = (dt, .tup [.int (av / b), .int (av % b)]) :: (T' ++ [(dr, .list (il row))]))
      (Ex.callK ok (Ev.glob ok rfl Lb.hDiv.ns rfl) Lb.hDiv.keep (EvL.toX (vs := [.int av, .int b, .int (n : Int)]) (EvL.cons (by walk_at "ev") (EvL.cons (by walk_at "ev") (EvL.cons (by walk_at "ev") EvL.nil)))
        (div_spec Lb 20 _ _ _ _ n _ ok (by omega) ⟨by omega, by omega, a0, by rw [← hhf]; exact bb.1, bn, a1⟩ (by show 302 + 2 * 20 < recursionLimit; decide) fun dt _ => ⟨dt, rfl, rfl⟩)) rfl rfl) ?_ rfl rfl rfl)
    rintro v H ⟨dt0, rfl, rfl⟩
    refine ⟨dt0, _, rfl, .head _, rfl, ?_⟩
    refine Sns.target (Sn.loc ok rfl) (Sns.target (Sn.loc ok rfl) (Sns.nil ?_))
    show Ss _ _ _ _ _
    refine Cov.ss (m := [(Str.ofString "a", .int av), (Str.ofString "q", .int (av / b)), (Str.ofString "r", .int (av % b)), (Str.ofString "n", .int (n : Int)), (Str.ofString "b", .int b), (Str.ofString "half", .int hh), (Str.ofString "width", .int (w : Int)), (Str.ofString "up", .int (u : Int)), (Str.ofString "row", .val (.ref dr))]) (H := T' ++ [(dr, .list (il row))]) ⟨by walk_at "cov", Sub.tail⟩ ?_
    have q0 : 0 ≤ av / b := div_nn a0 b0
    have q1 : av / b < 2 ^ n := div_lt b0 a1
    have rr0 : 0 ≤ av % b := emod_nn b0
    have rr1 : av % b < b := emod_lt' b0
    have rub0 : 0 ≤ av % b * 2 ^ u := Int.mul_nonneg rr0 (by omega)
    have rub1 : av % b * 2 ^ u < 2 ^ (w * s) := Int.lt_trans (Int.mul_lt_mul_of_pos_right rr1 hU) wW1
    have Y0 : 0 ≤ av * 2 ^ u := Int.mul_nonneg a0 (by omega)
    have a2 : av < 2 ^ (n + n) := by
      have : 2 ^ n * b ≤ 2 ^ n * 2 ^ n := Int.mul_le_mul_of_nonneg_left (by omega) (by omega)
      rw [Int.pow_add]
      omega
    have Yb : intBits (av * 2 ^ u) ≤ 2 * n + u := bits_of Y0 (by
      rw [Int.pow_add, Nat.two_mul]
      exact Int.mul_lt_mul_of_pos_right a2 hU)
    have dq : ∀ {x : Nat}, x ≤ 2 ^ 16 → (x + w - 1) / w ≤ 2 ^ 20 := fun {x} h => Nat.div_le_of_le_mul (by have : 900 * 2 ^ 20 ≤ w * 2 ^ 20 := Nat.mul_le_mul_right _ w1.1; omega)
    have hd20 : (302 : Nat) + 20 + 1 < recursionLimit := by decide
    -- told
    refine Ss.cons (St.assignL (R' := fun v H => ∃ T₂ dt d1 d2, TabsOk ts T₂ ∧ v = .val (.ref dt) ∧ H = (dt, .tup [.val (.ref d1), .val (.ref d2)]) :: (T₂ ++ (d2, .list (il (i2d w (av % b * 2 ^ u)))) :: (d1, .list (il (i2d w (av / b)))) :: [(dr, .list (il row))])) ok rfl
      (Ex.tuple (R₁ := fun vs H => ∃ T₂ d1 d2, TabsOk ts T₂ ∧ vs = [.val (.ref d1), .val (.ref d2)] ∧ H = T₂ ++ (d2, .list (il (i2d w (av % b * 2 ^ u)))) :: (d1, .list (il (i2d w (av / b)))) :: [(dr, .list (il row))])
        (ExL.cons (R₁ := fun v H => ∃ T₁ d1, TabsOk ts T₁ ∧ v = .val (.ref d1) ∧ H = T₁ ++ (d1, .list (il (i2d w (av / b)))) :: [(dr, .list (il row))])
          (Ex.callK ok (Ev.glob ok rfl Li.hI.ns rfl) Li.hI.keep (EvL.toX (vs := [.int (av / b), .int (w : Int)]) (EvL.cons (by walk_at "ev") (EvL.cons (by walk_at "ev") EvL.nil))
            (i2d_spec Li _ _ (av / b) w 20 T' _ _ ok q0 (by omega) (by omega) (bits_mono (bits_of q0 q1) (by omega)) (dq (bits_mono (bits_of q0 q1) (by omega))) hd20 hT' fun T₁ d h => ⟨T₁, d, h, rfl, rfl⟩)) rfl rfl) ?_) ?_) ?_ rfl)
    · rintro v H ⟨T₁, d1, hT₁, rfl, rfl⟩
      refine ExL.cons (R₁ := fun v H => ∃ T₂ d2, TabsOk ts T₂ ∧ v = .val (.ref d2) ∧ H = T₂ ++ (d2, .list (il (i2d w (av % b * 2 ^ u)))) :: (d1, .list (il (i2d w (av / b)))) :: [(dr, .list (il row))])
        (Ex.callK ok (Ev.glob ok rfl Li.hI.ns rfl) Li.hI.keep (EvL.toX (vs := [.int (av % b * 2 ^ u), .int (w : Int)]) (EvL.cons (.shl (n := u) (by walk_at "ev") (by walk_at "ev") (by have := bits_of rr0 (Int.lt_trans rr1 bn); omega)) (EvL.cons (by walk_at "ev") EvL.nil))
          (i2d_spec Li _ _ (av % b * 2 ^ u) w 20 T₁ _ _ ok rub0 (by omega) (by omega) (bits_mono (bits_of rub0 rub1) (by omega)) (dq (bits_mono (bits_of rub0 rub1) (by omega))) hd20 hT₁ fun T₂ d h => ⟨T₂, d, h, rfl, rfl⟩)) rfl rfl) ?_
      rintro v H ⟨T₂, d2, hT₂, rfl, rfl⟩
      exact ExL.nil ⟨T₂, d1, d2, hT₂, rfl, rfl⟩
    · rintro vs H dt ⟨T₂, d1, d2, hT₂, rfl, rfl⟩ _
      exact ⟨Nat.le_of_ble_eq_true rfl, T₂, dt, d1, d2, hT₂, rfl, rfl⟩
    rintro v H ⟨T₂, dt, d1, d2, hT₂, rfl, rfl⟩
    show Ss _ _ _ _ _
    obtain ⟨H1, hH1⟩ : ∃ H1 : AH, H1 = (dt, .tup [.val (.ref d1), .val (.ref d2)]) :: (d2, .list (il (i2d w (av % b * 2 ^ u)))) :: (d1, .list (il (i2d w (av / b)))) :: [(dr, .list (il row))] := ⟨_, rfl⟩
    refine Cov.ss (m := [(Str.ofString "told", .val (.ref dt)), (Str.ofString "a", .int av), (Str.ofString "n", .int (n : Int)), (Str.ofString "b", .int b), (Str.ofString "half", .int hh), (Str.ofString "width", .int (w : Int)), (Str.ofString "up", .int (u : Int)), (Str.ofString "row", .val (.ref dr))]) (H := T₂ ++ H1) ⟨by walk_at "cov", by rw [hH1]; exact Sub.front⟩ ?_
    obtain ⟨mm, hmm⟩ : ∃ mm, mm = (intBits (av * 2 ^ u) + w - 1) / w := ⟨_, rfl⟩
    have hYd : i2d w (av * 2 ^ u) = dig w (av * 2 ^ u) mm := by rw [hmm]; rfl
    have Y1 : av * 2 ^ u < 2 ^ (w * mm) := by rw [hmm]; exact i2d_enough (by omega) Y0
    have mmb : mm ≤ 500 := by rw [hmm]; exact Nat.div_le_of_le_mul (by have : 900 * 500 ≤ w * 500 := Nat.mul_le_mul_right _ w1.1; omega)
    have eq1 : av * 2 ^ u / (b * 2 ^ u) = av / b := Int.mul_ediv_mul_of_pos_left _ _ hU
    have eq2 : av * 2 ^ u % (b * 2 ^ u) = av % b * 2 ^ u := by rw [Int.mul_comm av, Int.mul_comm b, Int.mul_emod_mul_of_pos _ _ hU, Int.mul_comm]
    have abits : intBits av ≤ 2 * n := bits_of a0 (by rw [Nat.two_mul]; exact a2)
    refine Ss.cons (St.iteX (R' := fun x H => x = false ∧ ∃ T₄, TabsOk ts T₄ ∧ Sub (T₄ ++ [(dr, .list (il row))]) H) (TsX.cmp (R₁ := fun v H => v = .val (.ref dt) ∧ H = T₂ ++ H1) (Ev.toEx (v := .val (.ref dt)) (by walk_at "ev") ⟨rfl, rfl⟩) ?_) ?_ ?_)
    · rintro v H ⟨rfl, rfl⟩
      refine Ex.callK ok (Ev.glob ok rfl Ls.hS.ns rfl) Ls.hS.keep (ExL.cons (R₁ := fun v H => ∃ T₃ dy, TabsOk ts T₃ ∧ v = .val (.ref dy) ∧ H = T₃ ++ (dy, .list (il (dig w (av * 2 ^ u) mm))) :: H1)
        (Ex.callK ok (Ev.glob ok rfl Li.hI.ns rfl) Li.hI.keep (EvL.toX (vs := [.int (av * 2 ^ u), .int (w : Int)]) (EvL.cons (.shl (n := u) (by walk_at "ev") (by walk_at "ev") (by omega)) (EvL.cons (by walk_at "ev") EvL.nil))
          (i2d_spec Li _ _ (av * 2 ^ u) w 20 T₂ _ _ ok Y0 (by omega) (by omega) (by omega) (dq (by omega)) hd20 hT₂ fun T₃ d h => ⟨T₃, d, h, rfl, by rw [hYd]⟩)) rfl rfl) ?_) rfl rfl
      rintro v H ⟨T₃, dy, hT₃, rfl, rfl⟩
      refine ExL.cons (R₁ := fun v H => ∃ T₄ dw, TabsOk ts T₄ ∧ v = .val (.ref dw) ∧ H = T₄ ++ (dw, .list (il (dig w (b * 2 ^ u) s))) :: (dy, .list (il (dig w (av * 2 ^ u) mm))) :: H1)
        (Ex.callK ok (Ev.glob ok rfl Li.hI.ns rfl) Li.hI.keep (EvL.toX (vs := [.int (b * 2 ^ u), .int (w : Int)]) (EvL.cons (.shl (n := u) (by walk_at "ev") (by walk_at "ev") (by omega)) (EvL.cons (by walk_at "ev") EvL.nil))
          (i2d_spec Li _ _ (b * 2 ^ u) w 20 T₃ _ _ ok (by omega) (by omega) (by omega) (by omega) (dq bub) hd20 hT₃ fun T₄ d h => ⟨T₄, d, h, rfl, by rw [wW2]⟩)) rfl rfl) ?_
      rintro v H ⟨T₄, dw, hT₄, rfl, rfl⟩
      refine ExL.cons (R₁ := fun v H => v = .int (2 ^ w) ∧ H = T₄ ++ (dw, .list (il (dig w (b * 2 ^ u) s))) :: (dy, .list (il (dig w (av * 2 ^ u) mm))) :: H1) (Ev.toEx (v := .int (2 ^ w)) (.pow (n := w) .lit (by walk_at "ev") (by rw [b2]; omega)) ⟨rfl, rfl⟩) ?_
      rintro v H ⟨rfl, rfl⟩
      refine ExL.nil (school_spec Ls _ _ w s mm (av * 2 ^ u) (b * 2 ^ u) dy dw _ _ ok (by omega) (by omega) s2 sb mmb wW0 wW1 Y0 Y1 (by simp) (by simp) (by show 302 + 1 < recursionLimit; decide) (by show 7 + 6 + 64 < cLine; decide) fun dt' e1 e2 => ?_)
      rw [eq1, eq2]
      refine ⟨false, CmpS.tup2Ne (l1 := d1) (l2 := d2) (k1 := e1) (k2 := e2) (x := i2d w (av / b)) (y := i2d w (av % b * 2 ^ u)) ?_ (.head _) (.inl ?_) (.inl ?_) (.inl ?_) (.inl ?_) (by show 7 + 64 < cLine; decide), rfl, T₄, hT₄, ?_⟩
      · rw [hH1]; simp
      · rw [hH1]; simp
      · rw [hH1]; simp
      · simp
      · simp
      · rw [hH1]
        refine .drop (.drop (.drop (.app (.refl _) (.drop (.drop (.drop (.drop .tail)))))))
    · rintro H ⟨h, _⟩; cases h
    rintro H ⟨_, T₄, hT₄, hS⟩
    refine Ss.nil ?_
    show Ss _ _ _ _ _
    exact Ss.nil ⟨T₄, hT₄, by walk_at "cov", hS⟩
  · rintro τ ⟨T', hT', c⟩
    show Ss _ _ _ _ _
    refine c.ss (Ss.cons (St.ret .bool ⟨rfl, T', hT', ?_⟩))
    exact .of (List.sublist_append_left _ _)
end Mine
open PySem PySem.W PyProof.Rows
set_option maxHeartbeats 8000000
open_top Mine.hdTop for PySem.Challenge.rw_dn0136_01
namespace Mine
abbrev ti30 : TI := ⟨34, 30, (posIn (bodyAt thePw 4) 1).line, (posIn (bodyAt thePw 4) 1).col, qInt⟩
theorem at_start {X : FX} {h : Heap} {m : Str → Option Value} {A p : Addr} (F : Fr X.h₀ X.L h m) (hm : m (Str.ofString "script") = some (.ref A)) (N : News X.h₀ X.L h [(p, tabObj #[])]) : At X ⟨[(Str.ofString "script", .val (.ref A))], [(p, .obj (tabObj #[]))]⟩ h := by
  refine ⟨⟨m, F, fun x v e => ?_⟩, fun r hr => ?_, by simp⟩
  · have := lookup_mem e
    simp only [List.mem_cons, List.not_mem_nil, or_false, Prod.mk.injEq] at this
    obtain ⟨rfl, rfl⟩ := this
    exact ⟨_, hm, rfl⟩
  · simp only [List.mem_cons, List.not_mem_nil, or_false] at hr
    subst hr
    have := N (p, tabObj #[]) (by simp)
    exact ⟨_, this.1, rfl, this.2⟩
def theLib (G : GX) (P : Params) (h : G.K = Mine.hdTop.heap_39 P) : Lib G where
  fDiv := 21
  fD32 := 28
  hDiv := ⟨by rw [h]; kernel_rfl, ⟨_, _, _, _, _, _, _, _, by rw [h]; rfl, by rw [h]; kernel_rfl⟩⟩
  hD32 := ⟨by rw [h]; kernel_rfl, ⟨_, _, _, _, _, _, _, _, by rw [h]; rfl, by rw [h]; kernel_rfl⟩⟩
  tLim := 189
  hLim := by rw [h]; kernel_rfl
  hdm := by rw [h]; kernel_rfl
def theLibI (G : GX) (P : Params) (h : G.K = Mine.hdTop.heap_39 P) : LibI G [ti30] where
  fI := 35
  t := ti30
  ht := by simp
  hI := ⟨by rw [h]; kernel_rfl, ⟨_, _, _, _, _, _, _, by rw [h]; rfl⟩, by rw [h]; kernel_rfl, by rw [h]; kernel_rfl, rfl, rfl, rfl⟩
  hlen := by rw [h]; kernel_rfl
def theSchool (G : GX) (P : Params) (h : G.K = Mine.hdTop.heap_39 P) : LibS G where
  fC := 42
  hC := ⟨by rw [h]; kernel_rfl, ⟨_, _, _, _, _, _, _, _, by rw [h]; rfl, by rw [h]; kernel_rfl⟩⟩
  fS := 49
  hS := ⟨by rw [h]; kernel_rfl, ⟨_, _, _, _, _, _, _, _, by rw [h]; rfl, by rw [h]; kernel_rfl⟩⟩
  hr := by rw [h]; kernel_rfl
  hlen := by rw [h]; kernel_rfl
end Mine
theorem PySem.Challenge.cw_dn0136_01_holds : PySem.Challenge.rw_dn0136_01.Holds := by
  refine Mine.hdTop ?_
  k_go0
  rename Fr _ _ _ _ => F
  rename Below _ _ _ _ => B
  rename Top _ _ _ _ _ (ghostOf _ _) => T
  rename Frag.In _ _ => Kx
  rename News _ _ _ _ => N
  rename Heap.IsList (ghostOf _ _) _ _ => hl
  rename IntsAre _ _ => hi
  rename ¬ (_ : Int) < _ => hlen
  rename PyData.layable0 _ = true => hlay
  rename Shared.gens _ = _ => hg
  rename World => w
  refine Mine.law_end (G := ⟨_, w, Mine.hdTop.heap_39 w.params, _, _, _, _, _⟩) (X := ⟨302, 7, some [], _, Mine.scopeAt Mine.thePw 8, _, _, _, [], [], _, _, _⟩) (ts := [Mine.ti30]) (T := [(30, .obj (tabObj #[]))]) (m := [(Str.ofString "script", .val (.ref _))])
    (Mine.law1 (Mine.theLib _ w.params rfl) (Mine.theLibI _ w.params rfl) (Mine.theSchool _ w.params rfl) _ _ _ _ ⟨B, Kx, T, rfl⟩ rfl rfl rfl rfl (fun H => .inr (.inr ⟨_, hl, Mine.AllIs.ofInts hi⟩)) (by omega) (fun n hn => by have := intBits_le_of_item hn hlay; omega) (.empty .nil)) (Mine.at_start F rfl N) (fun h' tk mm F' hgr => ?q)
  case q =>
    exact ⟨goodW_bool F' hg (fun _ => rfl) (postW_of rfl (w_eq_bool (w_res rfl) w_lit) rfl) rfl, hgr Mine.ti30 (by simp), trivial⟩
