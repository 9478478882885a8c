import PyProof.Rows.All
import Open.Line
import Open.Seg
import OpenK.KDict
import OpenK.KTop
import OpenK.KCell
import Wide.All
import PyProof.AttrMissHeap
import PyProof.SliceSyntax
import PyProof.DelItemList
import PyProof.RulesDelMore
import PyProof.DefMake
import PyProof.JoinWalk
import PyProof.StrLawsIn
import PyProof.StrLawsFirst
import PyProof.StrLawsIdx
import PyProof.Rows.ChunkLeaf
import PyProof.Rows.SeqSliceW
import PySem.Challenge.RW_rx0039_01
open PySem PySem.W PyProof.Rows PySem.Calls
set_option Elab.async false
set_option maxRecDepth 100000
set_option linter.unusedVariables false
namespace Mine
section
open PySem PySem.W PyProof.Rows PySem.Calls

/-! ## a logic over heaps -/
structure Cf where
  w : World
  d : Drawn
  os : OsState
  fa : Nat → Addr
  cc : Addr
  cp : Addr
  pat : Addr
  ptu : Addr
  scm : Addr

abbrev Mo (c : Cf) : Model := model PySem.Challenge.rw_rx0039_01.row.prog c.w
abbrev Sh (c : Cf) (h : Heap) (g : Array GenState) (tk : Nat) : Shared := ⟨h, g, c.d, tk, c.os⟩

def Post (c : Cf) {α : Type} (Q : α → Heap → Prop) (a : α) (s : Shared) : Prop :=
  ∃ h tk g, s = Sh c h g tk ∧ AllBare g ∧ Q a h

structure W (c : Cf) (A : Around) {α : Type} (t : Sem α) (Q : α → Heap → Prop) (h : Heap) : Prop where
  run : ∀ tk g, AllBare g → wpAny (Mo c) A t (Post c Q) (fun _ _ => False) (Sh c h g tk)

abbrev NoE : Value → Shared → Prop := fun _ _ => False

section
variable {c : Cf} {A : Around} {α β γ : Type} {h : Heap} {g : Array GenState} {tk : Nat}

theorem Post.mk' {Q : α → Heap → Prop} {a : α} (hg : AllBare g) (q : Q a h) : Post c Q a (Sh c h g tk) := ⟨h, tk, g, rfl, hg, q⟩
theorem W.mono {t : Sem α} {Q Q' : α → Heap → Prop} (H : W c A t Q h) (q : ∀ a h, Q a h → Q' a h) : W c A t Q' h :=
  ⟨fun tk g hg => wpAny_mono (H.run tk g hg) (fun _ _ ⟨h', tk', g', e, hg', x⟩ => ⟨h', tk', g', e, hg', q _ _ x⟩) fun _ _ x => x⟩
/-- a state of the logic, met in the wide one -/
theorem W.up {t : Sem α} {Q : α → Heap → Prop} {R : α → Shared → Prop} {E : Value → Shared → Prop} (H : W c A t Q h) (hg : AllBare g) (q : ∀ a h' g' tk', AllBare g' → Q a h' → R a (Sh c h' g' tk')) :
    wpAny (Mo c) A t R E (Sh c h g tk) :=
  wpAny_mono (H.run tk g hg) (fun _ _ ⟨_, _, _, e, hg', x⟩ => e ▸ q _ _ _ _ hg' x) fun _ _ x => x.elim
theorem W.pure {a : α} {Q : α → Heap → Prop} (q : Q a h) : W c A (Pure.pure a) Q h := ⟨fun _ _ hg => wpAny_pure (Post.mk' hg q)⟩
theorem W.bind {t : Sem α} {f : α → Sem β} {Q : β → Heap → Prop} (H : W c A t (fun a h₁ => W c A (f a) Q h₁) h) : W c A (t >>= f) Q h :=
  ⟨fun _ _ hg => wpAny_bind (H.up hg fun _ _ g' tk' hg' x => x.run tk' g' hg')⟩

/-- a rule of the wide logic whose tail is one more tree -/
theorem W.k1 {t : Sem α} {Q : α → Heap → Prop} (H : W c A t Q h) (hg : AllBare g) : wpAny (Mo c) A t (Post c Q) NoE (Sh c h g tk) := H.run tk g hg
theorem W.k2 {t : Sem α} {f : α → Sem β} {Q : β → Heap → Prop} (H : W c A t (fun a h₁ => W c A (f a) Q h₁) h) (hg : AllBare g) :
    wpAny (Mo c) A t (fun a s₁ => wpAny (Mo c) A (f a) (Post c Q) NoE s₁) NoE (Sh c h g tk) := H.up hg fun _ _ g' tk' hg' x => x.run tk' g' hg'
theorem W.k3 {t : Sem α} {f : α → Sem β} {k : α → β → Sem γ} {Q : γ → Heap → Prop} (H : W c A t (fun a h₁ => W c A (f a) (fun b h₂ => W c A (k a b) Q h₂) h₁) h) (hg : AllBare g) :
    wpAny (Mo c) A t (fun a s₁ => wpAny (Mo c) A (f a) (fun b s₂ => wpAny (Mo c) A (k a b) (Post c Q) NoE s₂) NoE s₁) NoE (Sh c h g tk) :=
  H.up hg fun _ _ _ _ hg' x => x.k2 hg'

structure WC (c : Cf) (A : Around) (cd : Code) (Q : Flow → Heap → Prop) (h : Heap) : Prop where
  run : ∀ tk g, AllBare g → codeAny (Mo c) A cd (fun r s' => match r with | .ok f => Post c Q f s' | .error _ => False) (Sh c h g tk)

end

/-- room for k more frames -/
structure Ok (A : Around) (k : Nat) : Prop where
  hd : A.handled = none
  dp : A.depth + k < recursionLimit
  un : A.units + (100 + 16 * k) < cLine
theorem Ok.deeper {A : Around} {k : Nat} {e : Env} (o : Ok A (k + 1)) : Ok (A.deeper e) k :=
  ⟨o.hd, by show A.depth + 1 + k < _; have := o.dp; omega, by show A.units + 3 + _ < _; have := o.un; omega⟩
theorem Ok.less {A : Around} {k j : Nat} (o : Ok A k) (h : j ≤ k) : Ok A j :=
  ⟨o.hd, by have := o.dp; omega, by have := o.un; omega⟩
theorem Ok.room {A : Around} {k : Nat} (o : Ok A k) : A.depth < recursionLimit := by have := o.dp; omega
theorem Ok.unit {A : Around} {k : Nat} (o : Ok A k) : A.units + 64 < cLine := by have := o.un; omega
theorem Ok.in1 {A : Around} {k : Nat} (o : Ok A (k+1)) : Ok A.in1 k :=
  ⟨o.hd, by have := o.dp; show A.depth + k < _; omega, by show A.units + 1 + _ < _; have := o.un; omega⟩

/-! ## the base -/
def stm (k : Nat) : Stmt := PySem.Challenge.pw_rx0039_01.main.body.getD k (.Pass default)
def sname : Stmt → Str
  | .FunctionDef n _ _ _ _ _ _ _ _ _ => n
  | _ => ""
def sparams : Stmt → Arguments
  | .FunctionDef _ a _ _ _ _ _ _ _ _ => a
  | _ => default
def sbody : Stmt → List Stmt
  | .FunctionDef _ _ b _ _ _ _ _ _ _ => b
  | _ => []
def sscope : Stmt → Scope
  | .FunctionDef _ _ _ _ _ _ s _ _ _ => s
  | _ => default
def defIdx : List Nat := [3, 4, 8, 10, 12, 13, 14, 15, 17, 18, 19, 20, 21, 22]
def freeNames : List Str := ["sorted", "len", "isinstance", "str", "range", "max", "min", "abs"]
abbrev dfd (k : Nat) (pm code doc : Value) : FuncData := docDef (sname (stm k)) (sparams (stm k)) (sbody (stm k)) (sscope (stm k)) pm code doc
structure Names (c : Cf) (mg mb : Str → Option Value) (h : Heap) : Prop where
  g : h.Ns mainGlobals mg
  b : h.Ns builtinsNs mb
  bo : ∀ x : Str, x ≠ "__name__" → mb x = bootBuiltins x
  fr : ∀ x ∈ freeNames, mg x = none
  fn : ∀ k ∈ defIdx, mg (sname (stm k)) = some (.ref (c.fa k))
  pa : mg "_twin_re_1" = some (.ref c.pat)
  sm : mg "_special_chars_map" = some (.ref c.scm)
  bm : ∃ bm ob, mg "__builtins__" = some (.ref bm) ∧ bm ≠ builtinsNs ∧ h.get? bm = some ob ∧ ob.cls = .type "module" ∧ ob.dict = some builtinsNs ∧ ob.data = .plain
/-- the compiled pattern's code, its object -/
def reCode : Array Int := #[14, 14, 4, 1, 1, 9, 0, 64, 0, 1342177280, 0, 0, 0, 0, 0, 17, 0, 13, 11, 9, 0, 64, 0, 1342177280, 0, 0, 0, 0, 0, 17, 1, 1]
structure PatIs (h : Heap) (a p : Addr) : Prop where
  ob : ∃ o fs, h.get? a = some o ∧ o.cls = .type "re.Pattern" ∧ o.dict = none ∧ o.data = .fields fs ∧ fs.getD 5 .none = .ref p ∧ Builtin.Re.reRawNat (fs.getD 6 .none) = 0 ∧ Builtin.Re.reRawNat (fs.getD 2 .none) = 1
  cd : ∃ o vs n, h.get? p = some o ∧ o.data = .seq vs n ∧ vs.map Builtin.Re.reRawOf = reCode
theorem PatIs.keeps {h h' : Heap} {a p : Addr} (x : PatIs h a p) (k : ∀ b o, h.get? b = some o → h'.get? b = some o) : PatIs h' a p :=
  ⟨let ⟨o, fs, e, r⟩ := x.ob; ⟨o, fs, k _ _ e, r⟩, let ⟨o, vs, n, e, r⟩ := x.cd; ⟨o, vs, n, k _ _ e, r⟩⟩
structure Bs (c : Cf) (H₀ : Heap) : Prop where
  ns : ∃ mg mb, Names c mg mb H₀
  lim : H₀.NoLimit
  fn : ∀ k ∈ defIdx, ∃ o pm code doc, H₀.get? (c.fa k) = some o ∧ o.data = .func (dfd k pm code doc) ∧ H₀.CodeRec code (sname (stm k)) ∧ (k = 10 → code = .ref c.cc)
  ct : ∀ (h : Heap) (ps : Array Value), (∀ b o, H₀.get? b = some o → h.get? b = some o) → h.get? c.cp = some { cls := .none, data := .fields ps } → TriplesOk ps.toList → h.IsCode c.cc c.cp ps ∧ h.TableAt c.cc c.cp ps
  cp : H₀.get? c.cp = none
  pt : PatIs H₀ c.pat c.ptu
  sc : ∃ f : Int → Option Value, (∀ (prog : Program) (w : World), H₀.MapOf (intKind prog w) c.scm f) ∧ (∀ k : Nat, 97 ≤ k → k < 105 → f k = none) ∧ (c.scm == sysModules) = false

/-! ## the state of a def -/
def Kp (M : List Addr) (h h' : Heap) : Prop := ∀ b o, b ∉ M → h.get? b = some o → h'.get? b = some o
theorem Kp.refl (M : List Addr) (h : Heap) : Kp M h h := fun _ _ _ e => e
theorem Kp.trans {M : List Addr} {h h' h'' : Heap} (a : Kp M h h') (b : Kp M h' h'') : Kp M h h'' := fun x o n e => b x o n (a x o n e)
theorem Kp.sub {M M' : List Addr} {h h' : Heap} (a : Kp M h h') (s : ∀ b ∈ M, b ∈ M') : Kp M' h h' := fun x o n e => a x o (fun q => n (s x q)) e

abbrev OP := Obj → Prop

def lk : List (Str × Option Value) → Str → Option Value
  | [], _ => none
  | (y, u) :: r, x => bif x == y then u else lk r x
/-- the name x holds v -/
inductive Lo (x : Str) (v : Value) : List (Str × Option Value) → Prop
  | head {r} : Lo x v ((x, some v) :: r)
  | tail {p r} : Lo x v r → Lo x v (p :: r)
/-- the name x is set to v -/
inductive Se (x : Str) (v : Value) : List (Str × Option Value) → List (Str × Option Value) → Prop
  | head {u r} : Se x v ((x, u) :: r) ((x, some v) :: r)
  | tail {p r r'} : Se x v r r' → Se x v (p :: r) (p :: r')
theorem Lo.mem {x : Str} {v : Value} : ∀ {m : List (Str × Option Value)}, Lo x v m → x ∈ m.map (·.1)
  | _, .head => .head _
  | _, .tail l => .tail _ l.mem
theorem Lo.lk {x : Str} {v : Value} : ∀ {m : List (Str × Option Value)}, Lo x v m → (m.map (·.1)).Nodup → lk m x = some v
  | _, .head, _ => by unfold Mine.lk; rw [beq_self_eq_true]; rfl
  | _, .tail (p := (y, u)) l, nd => by
    have nd := List.nodup_cons.mp nd
    have ne : (x == y) = false := beq_eq_false_iff_ne.mpr fun e => nd.1 (e ▸ l.mem)
    unfold Mine.lk; rw [ne]; exact l.lk nd.2
theorem Se.keys {x : Str} {v : Value} : ∀ {m m' : List (Str × Option Value)}, Se x v m m' → m'.map (·.1) = m.map (·.1)
  | _, _, .head => rfl
  | _, _, .tail l => congrArg (List.cons _) l.keys
theorem Se.mem {x : Str} {v : Value} : ∀ {m m' : List (Str × Option Value)}, Se x v m m' → x ∈ m.map (·.1)
  | _, _, .head => .head _
  | _, _, .tail l => .tail _ l.mem
theorem Se.lk {x : Str} {v : Value} : ∀ {m m' : List (Str × Option Value)}, Se x v m m' → (m.map (·.1)).Nodup → ∀ z, lk m' z = if z = x then some v else lk m z
  | _, _, .head, _, z => by
    unfold Mine.lk
    by_cases e : z = x
    · simp [e]
    · have : (z == x) = false := beq_eq_false_iff_ne.mpr e
      simp [this, e]
  | _, _, .tail (p := (y, u)) l, nd, z => by
    have nd := List.nodup_cons.mp nd
    have ne : x ≠ y := fun e => nd.1 (e ▸ l.mem)
    unfold Mine.lk
    by_cases e : z = y
    · subst e; simp [ne.symm]
    · have : (z == y) = false := beq_eq_false_iff_ne.mpr e
      rw [this]; exact l.lk nd.2 z

structure St (H₀ H : Heap) (X : List Addr) (L : Addr) (m : List (Str × Option Value)) (led : List (Addr × OP)) (ims : List (Value × PyData)) (h : Heap) : Prop where
  ns : h.Ns L (lk m)
  kk : (m.map (·.1)).Nodup
  kp : Kp X H h
  bs : ∀ b o, H₀.get? b = some o → h.get? b = some o
  nb : ∀ b ∈ L :: led.map (·.1), H₀.get? b = none
  nh : ∀ b ∈ L :: led.map (·.1), b ∈ X ∨ H.get? b = none
  ld : ∀ p ∈ led, ∃ o, h.get? p.1 = some o ∧ p.2 o
  nd : (L :: led.map (·.1)).Nodup
  im : ∀ p ∈ ims, ∃ as, Reads (hideAll h (L :: led.map (·.1))) p.1 p.2 as

theorem hidden_get {h : Heap} {M : List Addr} {b : Addr} {o : Obj} (e : (hideAll h M).get? b = some o) : b ∉ M ∧ h.get? b = some o := by
  refine ⟨fun q => ?_, of_hideAll M e⟩
  rw [hideAll_none M q] at e; cases e
theorem hidden_sub {h h' : Heap} {M M' : List Addr} (k : Kp M h h') (n : ∀ b ∈ M', b ∈ M ∨ h.get? b = none) {b : Addr} {o : Obj} (e : (hideAll h M).get? b = some o) : (hideAll h' M').get? b = some o := by
  obtain ⟨h1, h2⟩ := hidden_get e
  refine hideAll_get _ (k b o h1 h2) fun q => ?_
  rcases n b q with x | x
  · exact h1 x
  · rw [x] at h2; cases h2
theorem reads_sub {h h' : Heap} {M M' : List Addr} (k : Kp M h h') (n : ∀ b ∈ M', b ∈ M ∨ h.get? b = none) {v : Value} {d : PyData} {as : List Addr} (r : Reads (hideAll h M) v d as) : Reads (hideAll h' M') v d as :=
  Reads.keeps (fun _ _ e => hidden_sub k n e) r

section
variable {H₀ H h h' : Heap} {X : List Addr} {L a : Addr} {m m' : List (Str × Option Value)} {led led' : List (Addr × OP)} {ims : List (Value × PyData)}

/-- the general step: all outside the frame and the ledger is kept; the ledger's new ones are new -/
theorem St.step (s : St H₀ H X L m led ims h) (k : Kp (L :: led.map (·.1)) h h') (ns' : h'.Ns L (lk m')) (kk' : (m'.map (·.1)).Nodup)
    (n : ∀ b ∈ led'.map (·.1), b ∈ led.map (·.1) ∨ h.get? b = none) (ld' : ∀ p ∈ led', ∃ o, h'.get? p.1 = some o ∧ p.2 o) (nd' : (L :: led'.map (·.1)).Nodup) :
    St H₀ H X L m' led' ims h' := by
  have n2 : ∀ b ∈ L :: led'.map (·.1), b ∈ L :: led.map (·.1) ∨ h.get? b = none := fun b hb => by
    rcases List.mem_cons.mp hb with e | hb
    · exact .inl (e ▸ .head _)
    · exact (n b hb).imp (.tail _) id
  have new0 : ∀ b, h.get? b = none → H₀.get? b = none := fun b e => by
    cases q : H₀.get? b with
    | none => rfl
    | some o => rw [s.bs b o q] at e; cases e
  have newH : ∀ b, h.get? b = none → b ∈ X ∨ H.get? b = none := fun b e => by
    by_cases x : b ∈ X
    · exact .inl x
    · right
      cases q : H.get? b with
      | none => rfl
      | some o => rw [s.kp b o x q] at e; cases e
  refine ⟨ns', kk', fun b o x e => ?_, fun b o e => ?_, fun b hb => ?_, fun b hb => ?_, ld', nd', fun p hp => ?_⟩
  · refine k b o (fun q => ?_) (s.kp b o x e)
    rcases s.nh b q with y | y
    · exact x y
    · rw [y] at e; cases e
  · refine k b o (fun q => ?_) (s.bs b o e)
    rw [s.nb b q] at e; cases e
  · exact (n2 b hb).elim (s.nb b) (new0 b)
  · exact (n2 b hb).elim (s.nh b) (newH b)
  · obtain ⟨as, r⟩ := s.im p hp
    exact ⟨as, reads_sub k n2 r⟩

theorem St.kpL (s : St H₀ H X L m led ims h) (hs : Heap.SameBut L h h') : Kp (L :: led.map (·.1)) h h' := fun b o n e => (hs.2 b (fun q => n (q ▸ .head _))).trans e
theorem St.store (s : St H₀ H X L m led ims h) {x : Str} {v : Value} (se : Se x v m m') (hn : h'.Ns L (fun y => if y = x then some v else lk m y)) (hs : Heap.SameBut L h h') : St H₀ H X L m' led ims h' := by
  refine s.step (s.kpL hs) (by rw [show lk m' = _ from funext (se.lk s.kk)]; exact hn) (by rw [se.keys]; exact s.kk) (fun b hb => .inl hb) (fun p hp => ?_) s.nd
  obtain ⟨o, ho, q⟩ := s.ld p hp
  refine ⟨o, (hs.2 p.1 fun e => ?_).trans ho, q⟩
  exact (List.nodup_cons.mp s.nd).1 (e ▸ List.mem_map_of_mem hp)

theorem St.inH (s : St H₀ H X L m led ims h) {b : Addr} (hb : b ∈ L :: led.map (·.1)) : b < h.objs.size := by
  rcases List.mem_cons.mp hb with e | hb
  · exact e ▸ s.ns.lt
  · obtain ⟨p, hp, rfl⟩ := List.mem_map.mp hb
    obtain ⟨o, ho, _⟩ := s.ld p hp
    exact Heap.lt_size ho
theorem fresh_none (h : Heap) {b : Addr} (hb : h.objs.size ≤ b) : h.get? b = none := by
  cases e : h.get? b with
  | none => rfl
  | some o' => exact absurd (Heap.lt_size e) (Nat.not_lt.mpr hb)
/-- a new object that may be changed later -/
theorem St.pushLed (s : St H₀ H X L m led ims h) {o : Obj} {P : OP} (hf : o.isFreed = false) (hp : P o) : St H₀ H X L m ((h.objs.size, P) :: led) ims (h.push o) := by
  refine s.step (fun b o' _ e => Heap.get?_push_of_some _ e) (s.ns.push _) s.kk (fun b hb => ?_) (fun p q => ?_) ?_
  · rcases List.mem_cons.mp hb with e | hb
    · exact .inr (fresh_none h (Nat.le_of_eq e.symm))
    · exact .inl hb
  · rcases List.mem_cons.mp q with e | q
    · subst e; exact ⟨o, Heap.get?_push_size _ hf, hp⟩
    · obtain ⟨o', ho', r⟩ := s.ld p q
      exact ⟨o', Heap.get?_push_of_some _ ho', r⟩
  · have nd := s.nd
    have n1 : h.objs.size ∉ L :: led.map (·.1) := fun q => Nat.lt_irrefl _ (s.inH q)
    simp only [List.map_cons, List.nodup_cons, List.mem_cons, not_or] at nd n1 ⊢
    exact ⟨⟨fun e => n1.1 e.symm, nd.1⟩, n1.2, nd.2⟩
/-- anything new that is not looked at again -/
theorem St.grow (s : St H₀ H X L m led ims h) (k : ∀ b o, h.get? b = some o → h'.get? b = some o) : St H₀ H X L m led ims h' :=
  s.step (fun b o _ e => k b o e) (s.ns.keeps k) s.kk (fun b hb => .inl hb) (fun p hp => let ⟨o, ho, q⟩ := s.ld p hp; ⟨o, k _ _ ho, q⟩) s.nd
theorem St.addIm (s : St H₀ H X L m led ims h) {v : Value} {d : PyData} {as : List Addr} (r : Reads (hideAll h (L :: led.map (·.1))) v d as) : St H₀ H X L m led ((v, d) :: ims) h :=
  ⟨s.ns, s.kk, s.kp, s.bs, s.nb, s.nh, s.ld, s.nd, fun p hp => by
    rcases List.mem_cons.mp hp with e | hp
    · subst e; exact ⟨as, r⟩
    · exact s.im p hp⟩
theorem St.less (s : St H₀ H X L m led ims h) {ims' : List (Value × PyData)} (k : ∀ p ∈ ims', p ∈ ims) : St H₀ H X L m led ims' h :=
  ⟨s.ns, s.kk, s.kp, s.bs, s.nb, s.nh, s.ld, s.nd, fun p hp => s.im p (k p hp)⟩

/-- one place of the ledger changed -/
inductive Up (a : Addr) (P P' : OP) : List (Addr × OP) → List (Addr × OP) → Prop
  | head {r} : Up a P P' ((a, P) :: r) ((a, P') :: r)
  | tail {p r r'} : Up a P P' r r' → Up a P P' (p :: r) (p :: r')
theorem Up.map {P P' : OP} : ∀ {l l' : List (Addr × OP)}, Up a P P' l l' → l'.map (·.1) = l.map (·.1)
  | _, _, .head => rfl
  | _, _, .tail u => by simp [u.map]
theorem Up.mem {P P' : OP} : ∀ {l l' : List (Addr × OP)}, Up a P P' l l' → (a, P) ∈ l
  | _, _, .head => .head _
  | _, _, .tail u => .tail _ u.mem
theorem Up.get {P P' : OP} : ∀ {l l' : List (Addr × OP)}, Up a P P' l l' → (l.map (·.1)).Nodup → ∀ p ∈ l', p = (a, P') ∨ (p ∈ l ∧ p.1 ≠ a)
  | _, _, .head, nd, p, hp => by
    simp only [List.map_cons, List.nodup_cons] at nd
    rcases List.mem_cons.mp hp with e | hp
    · exact .inl e
    · exact .inr ⟨.tail _ hp, fun e => nd.1 (e ▸ List.mem_map_of_mem hp)⟩
  | _, _, .tail (p := p₀) u, nd, p, hp => by
    simp only [List.map_cons, List.nodup_cons] at nd
    rcases List.mem_cons.mp hp with e | hp
    · subst e
      refine .inr ⟨.head _, fun e => nd.1 ?_⟩
      rw [e]; exact List.mem_map_of_mem (f := Prod.fst) u.mem
    · exact (u.get nd.2 p hp).imp id fun ⟨x, y⟩ => ⟨.tail _ x, y⟩

theorem St.upd (s : St H₀ H X L m led ims h) {P P' : OP} (u : Up a P P' led led') (k : Kp [a] h h') (hp : ∃ o, h'.get? a = some o ∧ P' o) : St H₀ H X L m led' ims h' := by
  have ha : a ∈ led.map (·.1) := List.mem_map_of_mem (f := Prod.fst) u.mem
  have nd := s.nd
  have hL : L ≠ a := fun e => (List.nodup_cons.mp nd).1 (e ▸ ha)
  refine s.step (k.sub fun b hb => by rw [List.mem_singleton.mp hb]; exact .tail _ ha) ?_ s.kk (fun b hb => by rw [u.map] at hb; exact .inl hb) (fun p q => ?_) (by rw [u.map]; exact nd)
  · obtain ⟨o, es, ep, ho, r⟩ := s.ns
    exact ⟨o, es, ep, k _ _ (fun q => hL (List.mem_singleton.mp q)) ho, r⟩
  · rcases u.get (List.nodup_cons.mp nd).2 p q with e | ⟨e, ne⟩
    · subst e; exact hp
    · obtain ⟨o, ho, r⟩ := s.ld p e
      exact ⟨o, k _ _ (fun q => ne (List.mem_singleton.mp q)) ho, r⟩
theorem St.at (s : St H₀ H X L m led ims h) {P : OP} (hm : (a, P) ∈ led) : ∃ o, h.get? a = some o ∧ P o := s.ld _ hm
theorem St.read (s : St H₀ H X L m led ims h) {v : Value} {d : PyData} (hm : (v, d) ∈ ims) : ∃ as, Reads h v d as := by
  obtain ⟨as, r⟩ := s.im _ hm
  exact ⟨as, Reads.keeps (fun _ _ e => of_hideAll _ e) r⟩
end
end
section
open PySem PySem.W PyProof.Rows PySem.Calls

def Br (b : Bool) (X Y : Prop) : Prop := (b = true → X) ∧ (b = false → Y)
theorem Br.dec {P X Y : Prop} [Decidable P] (x : P → X) (y : ¬ P → Y) : Br (decide P) X Y := ⟨fun e => x (of_decide_eq_true e), fun e => y (of_decide_eq_false e)⟩
theorem Br.tt {b : Bool} {X Y : Prop} (e : b = true) (x : X) : Br b X Y := ⟨fun _ => x, fun q => by rw [e] at q; cases q⟩
theorem Br.ff {b : Bool} {X Y : Prop} (e : b = false) (y : Y) : Br b X Y := ⟨(fun q => by rw [e] at q; cases q), fun _ => y⟩
theorem Br.ite {b : Bool} {X Y : Prop} (h : Br b X Y) : if b then X else Y := by
  cases b
  · exact h.2 rfl
  · exact h.1 rfl

theorem Br.not {b : Bool} {X Y : Prop} (h : Br b Y X) : Br (!b) X Y := by
  cases b
  · exact ⟨fun _ => h.2 rfl, fun q => (nomatch q)⟩
  · exact ⟨fun q => (nomatch q), fun _ => h.1 rfl⟩
theorem Br.of {b : Bool} {X Y : Prop} (x : b = true → X) (y : b = false → Y) : Br b X Y := ⟨x, y⟩
@[reducible] def seqQ (Q : Flow → Heap → Prop) (K : Heap → Prop) : Flow → Heap → Prop
  | .next => K
  | f => Q f
/-- from the state S to the state T -/
abbrev Ent (S T : Heap → Prop) : Prop := ∀ h, S h → T h
def BrH (b : Bool) (X Y : Heap → Prop) : Heap → Prop := fun h => Br b (X h) (Y h)
def noneQ (T : Heap → Prop) : Value → Heap → Prop := fun v h => v = .none ∧ T h
def trueQ (T : Heap → Prop) : Bool → Heap → Prop := fun b h => b = true ∧ T h
section
variable {S T X Y : Heap → Prop} {b : Bool} {p : Prop}
theorem brOf (x : b = true → Ent S X) (y : b = false → Ent S Y) : Ent S (BrH b X Y) := fun h s => ⟨fun e => x e h s, fun e => y e h s⟩
theorem brDec [Decidable p] (x : p → Ent S X) (y : ¬ p → Ent S Y) : Ent S (BrH (decide p) X Y) := fun h s => Br.dec (fun e => x e h s) (fun e => y e h s)
theorem brT (x : Ent S X) : Ent S (BrH true X Y) := fun h s => Br.tt rfl (x h s)
theorem brF (y : Ent S Y) : Ent S (BrH false X Y) := fun h s => Br.ff rfl (y h s)
theorem brNot (x : Ent S (BrH b Y X)) : Ent S (BrH (!b) X Y) := fun h s => Br.not (x h s)
theorem isNone (x : Ent S T) : Ent S (noneQ T .none) := fun h s => ⟨rfl, x h s⟩
theorem isTrueQ (x : Ent S T) : Ent S (trueQ T true) := fun h s => ⟨rfl, x h s⟩
end

/-- the frame's facts -/
structure Ev (e : Env) (L : Addr) (cl : List (Str × Addr)) (nm : List (Str × NameKind)) : Prop where
  loc : e.locals = L
  glb : e.globals = mainGlobals
  bui : e.builtins = builtinsNs
  cel : e.cells = cl
  kind : e.scope.kind = .function
  nms : e.scope.names = nm
theorem Ev.kindOf {e : Env} {L : Addr} {cl : List (Str × Addr)} {nm : List (Str × NameKind)} (E : Ev e L cl nm) {x : Str} {k : NameKind} (hl : nm.lookup x = some k) : e.kindOf x = some k := by
  unfold Env.kindOf; rw [E.nms]; exact hl

section
variable {c : Cf} {A : Around} {e : Env} {S : Heap → Prop} {pos : Pos}

/-! ### statements -/
theorem W_nil {Q : Flow → Heap → Prop} (q : Ent S (Q .next)) : Ent S (W c A (execs [] e) Q) := fun h s => ⟨fun _ _ hg => wpAny_execs_nil (Post.mk' hg (q h s))⟩
theorem W_cons {st : Stmt} {rest : List Stmt} {Q : Flow → Heap → Prop} (H : Ent S (W c A (exec st e) (seqQ Q (W c A (execs rest e) Q)))) : Ent S (W c A (execs (st :: rest) e) Q) :=
  fun h s => ⟨fun _ _ hg => wpAny_execs_cons ((H h s).up hg fun f h' g' tk' hg' x => by cases f <;> first | exact W.run x tk' g' hg' | exact Post.mk' hg' x)⟩
def isComp : Expr → Bool
  | .ListComp .. | .SetComp .. | .DictComp .. => true
  | _ => false
theorem swaps_no {value : Expr} {t : Option Expr} {line : Nat} (h : isComp value = false) : swapsWith value t line e = pure false := by
  cases value <;> first | rfl | cases h
theorem W_Assign {x : Str} {pos' : Pos} {value : Expr} {Q : Flow → Heap → Prop} (H : Ent S (W c A (eval value e) (fun v => W c A (storeName e x v) (fun _ => Q .next))))
    (hs : isComp value = false := by decide) : Ent S (W c A (exec (.Assign [.Name x pos'] value pos) e) Q) :=
  fun h s => ⟨fun _ _ hg => wpAny_Assign_Name ((H h s).up hg fun _ _ _ _ hg' x => x.up hg' fun _ _ _ _ hg'' q => Post.mk' hg'' q) (swaps_no hs)⟩
theorem W_If {test : Expr} {body orelse : List Stmt} {Q : Flow → Heap → Prop} (H : Ent S (W c A (isTrue test e (eval test e)) (fun b => BrH b (W c A (execs body e) Q) (W c A (execs orelse e) Q)))) :
    Ent S (W c A (exec (.If test body orelse pos) e) Q) :=
  fun h s => ⟨fun _ _ hg => wpAny_If ((H h s).up hg fun b h' g' tk' hg' x => by
    cases b
    · exact (x.2 rfl).run tk' g' hg'
    · exact (x.1 rfl).run tk' g' hg')⟩
/-- where the ways through a statement meet -/
theorem W_join {st : Stmt} {Q : Flow → Heap → Prop} {K : Heap → Prop} (R : Heap → Prop) (H : Ent S (W c A (exec st e) (seqQ Q R))) (k : Ent R K) : Ent S (W c A (exec st e) (seqQ Q K)) :=
  fun h s => (H h s).mono fun f h q => by
    cases f
    · exact k h q
    all_goals exact q
theorem W_Return {x : Expr} {Q : Flow → Heap → Prop} (H : Ent S (W c A (eval x e) (fun v => Q (.ret v)))) : Ent S (W c A (exec (.Return (some x) pos) e) Q) :=
  fun h s => ⟨fun _ _ hg => wpAny_Return_some ((H h s).up hg fun _ _ _ _ hg' x => Post.mk' hg' x)⟩
theorem W_Break {Q : Flow → Heap → Prop} (q : Ent S (Q .brk)) : Ent S (W c A (exec (.Break pos) e) Q) := fun h s => ⟨fun _ _ hg => wpAny_Break (Post.mk' hg (q h s))⟩
theorem W_Continue {Q : Flow → Heap → Prop} (q : Ent S (Q .cont)) : Ent S (W c A (exec (.Continue pos) e) Q) := fun h s => ⟨fun _ _ hg => wpAny_Continue (Post.mk' hg (q h s))⟩
theorem W_Assert {test : Expr} {msg : Option Expr} {Q : Flow → Heap → Prop} (H : Ent S (W c A (isTrue test e (eval test e)) (trueQ (Q .next)))) : Ent S (W c A (exec (.Assert test msg pos) e) Q) :=
  fun h s => ⟨fun _ _ hg => wpAny_Assert_holds ((H h s).up hg fun _ _ _ _ hg' x => ⟨x.1, Post.mk' hg' x.2⟩)⟩
theorem W_Expr {x : Expr} {Q : Flow → Heap → Prop} {L : Addr} {cl : List (Str × Addr)} {nm : List (Str × NameKind)} (E : Ev e L cl nm) (H : Ent S (W c A (eval x e) (noneQ (Q .next))))
    (hs : swapsWith x none pos.line e = pure false := by kernel_rfl) : Ent S (W c A (exec (.Expr x pos) e) Q) :=
  fun h s => ⟨fun _ _ hg => wpAny_Expr ((H h s).up hg fun _ _ _ _ hg' x => by obtain ⟨rfl, q⟩ := x; exact Post.mk' hg' q) (by unfold interactive; rw [E.kind]; rfl) hs⟩

theorem noted {R : Result → Shared → Prop} {x : Value} {s : Shared} (h : NoE x s) : notedBy (Mo c) A e (fun e s' => R (.error e) s') x s := h.elim
@[reducible] def loopQ (Q : Flow → Heap → Prop) (J : Heap → Prop) : Flow → Heap → Prop
  | .next => J
  | .cont => J
  | .brk => Q .next
  | .ret v => Q (.ret v)
theorem W_While {test : Expr} {body : List Stmt} {Q : Flow → Heap → Prop} (J : Nat → Heap → Prop)
    (turn : ∀ n, Ent (J n) (W c A (isTrue test e (eval test e)) (fun b => BrH b (W c A (execs body e) (loopQ Q fun h => ∃ k, k < n ∧ J k h)) (Q .next))))
    (n : Nat) (j : Ent S (J n)) : Ent S (W c A (exec (.While test body [] pos) e) Q) := by
  refine fun h s => ⟨fun tk g hg => wpAny_While ?_⟩
  refine codeAny_whileLoop (fun n s => ∃ h tk g, s = Sh c h g tk ∧ AllBare g ∧ J n h) ?_ n ⟨h, tk, g, rfl, hg, j h s⟩
  rintro n s ⟨h, tk, g, rfl, hg, j⟩
  refine W.up (turn n h j) hg fun b h' g' tk' hg' x => ?_
  cases b with
  | true =>
    refine W.up (x.1 rfl) hg' fun f h₂ g₂ tk₂ hg₂ y => ?_
    cases f with
    | next => obtain ⟨k, hk, z⟩ := y; exact ⟨k, hk, _, _, _, rfl, hg₂, z⟩
    | cont => obtain ⟨k, hk, z⟩ := y; exact ⟨k, hk, _, _, _, rfl, hg₂, z⟩
    | brk => exact Post.mk' hg₂ y
    | ret v => exact Post.mk' hg₂ y
  | false => exact wpAny_execs_nil (Post.mk' hg' (x.2 rfl))

/-! ### expressions -/
theorem W_int {i : Int} {k : Nat} {Q : Value → Heap → Prop} (q : ∀ t, Ent S (Q (.int i t))) : Ent S (W c A (eval (.Constant (.int i) k pos) e) Q) := fun h s => ⟨fun _ _ hg => wpAny_Constant_int (Post.mk' hg (q _ h s))⟩
theorem W_str {x : Str} {k : Nat} {Q : Value → Heap → Prop} (q : ∀ t, Ent S (Q (.str x t))) : Ent S (W c A (eval (.Constant (.str x) k pos) e) Q) := fun h s => ⟨fun _ _ hg => wpAny_Constant_str (Post.mk' hg (q _ h s))⟩
theorem W_none {k : Nat} {Q : Value → Heap → Prop} (q : Ent S (Q .none)) : Ent S (W c A (eval (.Constant .none k pos) e) Q) := fun h s => ⟨fun _ _ hg => wpAny_Constant_none (Post.mk' hg (q h s))⟩
theorem W_bool {b : Bool} {k : Nat} {Q : Value → Heap → Prop} (q : Ent S (Q (.bool b))) : Ent S (W c A (eval (.Constant (.bool b) k pos) e) Q) := fun h s => ⟨fun _ _ hg => wpAny_Constant_bool (Post.mk' hg (q h s))⟩
theorem W_BinOp {l r : Expr} {op : Operator} {Q : Value → Heap → Prop} (H : Ent S (W c A (eval l e) (fun a => W c A (eval r e) (fun b => W c A (binaryOp op a b) Q)))) : Ent S (W c A (eval (.BinOp l op r pos) e) Q) :=
  fun h s => ⟨fun _ _ hg => wpAny_BinOp ((H h s).k3 hg)⟩
theorem W_Compare {l r : Expr} {op : CmpOp} {Q : Value → Heap → Prop} (H : Ent S (W c A (eval l e) (fun a => W c A (eval r e) (fun b => W c A (compareOp op a b) Q))))
    (hm : behindInMarks op r = false := by kernel_rfl) : Ent S (W c A (eval (.Compare l [op] [r] pos) e) Q) :=
  fun h s => ⟨fun _ _ hg => wpAny_Compare1 ((H h s).k3 hg) hm⟩
theorem W_UnaryOp {x : Expr} {op : UnaryOp} {Q : Value → Heap → Prop} (H : Ent S (W c A (eval x e) (fun v => W c A (unaryOp op v) Q))) : Ent S (W c A (eval (.UnaryOp op x pos) e) Q) :=
  fun h s => ⟨fun _ _ hg => wpAny_UnaryOp ((H h s).k2 hg)⟩
theorem W_IfExp {test body orelse : Expr} {Q : Value → Heap → Prop} (H : Ent S (W c A (isTrue test e (eval test e)) (fun b => BrH b (W c A (eval body e) Q) (W c A (eval orelse e) Q)))) : Ent S (W c A (eval (.IfExp test body orelse pos) e) Q) :=
  fun h s => ⟨fun _ _ hg => wpAny_IfExp ((H h s).up hg fun b h' g' tk' hg' x => by
    cases b
    · exact (x.2 rfl).run tk' g' hg'
    · exact (x.1 rfl).run tk' g' hg')⟩
theorem W_And {x y : Expr} {Q : Value → Heap → Prop} (H : Ent S (W c A (eval x e) (fun v => W c A (truthy v) (fun b => BrH b (W c A (eval y e) Q) (Q v))))) : Ent S (W c A (eval (.BoolOp .And [x, y] pos) e) Q) :=
  fun h s => ⟨fun _ _ hg => wpAny_And2 ((H h s).up hg fun v h₁ g₁ tk₁ hg₁ x => x.up hg₁ fun b h₂ g₂ tk₂ hg₂ z => by
    cases b
    · exact Post.mk' hg₂ (z.2 rfl)
    · exact (z.1 rfl).run tk₂ g₂ hg₂)⟩
theorem W_Subscript {v i : Expr} {Q : Value → Heap → Prop} (H : Ent S (W c A (eval v e) (fun o => W c A (eval i e) (fun k => W c A (subscriptTail v i o k) Q)))) : Ent S (W c A (eval (.Subscript v i pos) e) Q) :=
  fun h s => ⟨fun _ _ hg => Subscript_ ((H h s).k3 hg)⟩

/-! ### tests -/
theorem T_Compare {l r : Expr} {op : CmpOp} {whole : Sem Value} {Q : Bool → Heap → Prop} (H : Ent S (W c A (eval l e) (fun a => W c A (eval r e) (fun b => W c A (compareOp op a b) (fun v => W c A (truthy v) Q)))))
    (hm : behindInMarks op r = false := by kernel_rfl) : Ent S (W c A (isTrue (.Compare l [op] [r] pos) e whole) Q) :=
  fun h s => ⟨fun _ _ hg => wpAny_isTrue_Compare1 ((H h s).up hg fun _ _ _ _ hg' x => x.k3 hg') hm⟩
theorem T_Not {x : Expr} {whole : Sem Value} {Q : Bool → Heap → Prop} (H : Ent S (W c A (isTrue x e (eval x e)) (fun b => Q (!b)))) : Ent S (W c A (isTrue (.UnaryOp .Not x pos) e whole) Q) :=
  fun h s => ⟨fun _ _ hg => isTrue_not ((H h s).up hg fun _ _ _ _ hg' x => Post.mk' hg' x)⟩
theorem T_AndNil {whole : Sem Value} {Q : Bool → Heap → Prop} (q : Ent S (Q true)) : Ent S (W c A (isTrue (.BoolOp .And [] pos) e whole) Q) := fun h s => ⟨fun _ _ hg => isTrue_and_nil (Post.mk' hg (q h s))⟩
theorem T_And {x : Expr} {rest : List Expr} {whole : Sem Value} {Q : Bool → Heap → Prop} (H : Ent S (W c A (isTrue x e (eval x e)) (fun b => BrH b (W c A (isTrue (.BoolOp .And rest pos) e whole) Q) (Q false)))) :
    Ent S (W c A (isTrue (.BoolOp .And (x :: rest) pos) e whole) Q) :=
  fun h s => ⟨fun _ _ hg => by
    refine isTrue_and ((H h s).up hg fun b h' g' tk' hg' x => ?_)
    cases b
    · exact Post.mk' hg' (x.2 rfl)
    · exact (x.1 rfl).run tk' g' hg'⟩
theorem T_plain {x : Expr} {whole : Sem Value} {Q : Bool → Heap → Prop} (H : Ent S (W c A whole (fun v => W c A (truthy v) Q)))
    (he : isTrue x e whole = (do let v ← whole; standAt x.pos; holding [v] (truthy v)) := by kernel_rfl) : Ent S (W c A (isTrue x e whole) Q) :=
  fun h s => ⟨fun _ _ hg => isTrue_plain ((H h s).k2 hg) he⟩
theorem t_bool {b : Bool} {Q : Bool → Heap → Prop} (q : Ent S (Q b)) : Ent S (W c A (truthy (.bool b)) Q) := fun h s => ⟨fun _ _ hg => wpAny_truthy_bool (Post.mk' hg (q h s))⟩
theorem t_none {Q : Bool → Heap → Prop} (q : Ent S (Q false)) : Ent S (W c A (truthy .none) Q) := fun h s => ⟨fun _ _ hg => truthy_none (Post.mk' hg (q h s))⟩
theorem t_str {x : Str} {t : Tok} {Q : Bool → Heap → Prop} (q : Ent S (Q ((x.length : Int) != 0))) (hfit : ¬ (x.length : Int) ≥ 2 ^ 63) : Ent S (W c A (truthy (.str x t)) Q) := fun h s => ⟨fun _ _ hg => PySem.P.truthy_str hfit (Post.mk' hg (q h s))⟩

/-! ### ints -/
section
variable {a b : Int} {t u : Tok} {Q : Value → Heap → Prop}
theorem b_add (q : ∀ t, Ent S (Q (.int (a + b) t))) : Ent S (W c A (binaryOp .Add (.int a t) (.int b u)) Q) := fun h s => ⟨fun _ _ hg => add_int (Post.mk' hg (q _ h s))⟩
theorem b_sub (q : ∀ t, Ent S (Q (.int (a - b) t))) : Ent S (W c A (binaryOp .Sub (.int a t) (.int b u)) Q) := fun h s => ⟨fun _ _ hg => sub_int (Post.mk' hg (q _ h s))⟩
theorem b_mul (q : ∀ t, Ent S (Q (.int (a * b) t))) (hm : IntMulOk a b) : Ent S (W c A (binaryOp .Mult (.int a t) (.int b u)) Q) := fun h s => ⟨fun _ _ hg => mul_int (Post.mk' hg (q _ h s)) hm⟩
theorem b_mod (hb : b ≠ 0) (q : ∀ t, Ent S (Q (.int (a.fmod b) t))) : Ent S (W c A (binaryOp .Mod (.int a t) (.int b u)) Q) := fun h s => ⟨fun _ _ hg => mod_int hb (Post.mk' hg (q _ h s))⟩
theorem b_div (hb : 0 < b ∧ b < 1000) (q : ∀ t, Ent S (Q (.int (a.fdiv b) t))) : Ent S (W c A (binaryOp .FloorDiv (.int a t) (.int b u)) Q) := fun h s => ⟨fun _ _ hg => floordiv_int (by omega) (Post.mk' hg (q _ h s)) (Or.inl (PyProof.noPylong_small (by omega)))⟩
theorem b_shr1 (h0 : 0 ≤ a) (q : ∀ t, Ent S (Q (.int (a / 2) t))) : Ent S (W c A (binaryOp .RShift (.int a t) (.int 1 u)) Q) := fun h s => ⟨fun _ _ hg => wpAny_rshift1_int h0 (Post.mk' hg (q _ h s))⟩
theorem c_lt (q : Ent S (Q (.bool (decide (a < b))))) : Ent S (W c A (compareOp .Lt (.int a t) (.int b u)) Q) := fun h s => ⟨fun _ _ hg => lt_int (Post.mk' hg (q h s))⟩
theorem c_le (q : Ent S (Q (.bool (decide (a ≤ b))))) : Ent S (W c A (compareOp .LtE (.int a t) (.int b u)) Q) := fun h s => ⟨fun _ _ hg => le_int (Post.mk' hg (q h s))⟩
theorem c_gt (q : Ent S (Q (.bool (decide (b < a))))) : Ent S (W c A (compareOp .Gt (.int a t) (.int b u)) Q) := fun h s => ⟨fun _ _ hg => gt_int (Post.mk' hg (q h s))⟩
theorem c_ge (q : Ent S (Q (.bool (decide (b ≤ a))))) : Ent S (W c A (compareOp .GtE (.int a t) (.int b u)) Q) := fun h s => ⟨fun _ _ hg => ge_int (Post.mk' hg (q h s))⟩
theorem c_eq (q : Ent S (Q (.bool (a == b)))) : Ent S (W c A (compareOp .Eq (.int a t) (.int b u)) Q) := fun h s => ⟨fun _ _ hg => eq_int (Post.mk' hg (q h s))⟩
theorem c_ne (q : Ent S (Q (.bool (a != b)))) : Ent S (W c A (compareOp .NotEq (.int a t) (.int b u)) Q) := fun h s => ⟨fun _ _ hg => ne_int (Post.mk' hg (q h s))⟩
theorem u_neg (q : ∀ t, Ent S (Q (.int (-a) t))) : Ent S (W c A (unaryOp .USub (.int a t)) Q) := fun h s => ⟨fun _ _ hg => neg_int (Post.mk' hg (q _ h s))⟩
end
end


/-! ### names -/
section
variable {c : Cf} {A : Around} {e : Env} {H₀ H : Heap} {X : List Addr} {L : Addr} {m m' : List (Str × Option Value)} {led led' : List (Addr × OP)} {ims : List (Value × PyData)}
  {cl : List (Str × Addr)} {nm : List (Str × NameKind)} {x : Str} {pos : Pos} {v : Value} {Q : Value → Heap → Prop} {U : Unit → Heap → Prop}

theorem W_local (E : Ev e L cl nm) (hl : nm.lookup x = some .local) (hv : Lo x v m) (q : Ent (St H₀ H X L m led ims) (Q v))
    (hd : (x == ("__debug__" : Str)) = false := by kernel_rfl) : Ent (St H₀ H X L m led ims) (W c A (eval (.Name x pos) e) Q) :=
  fun h s => ⟨fun _ _ hg => wpAny_Name (wpAny_loadName_local E.kind (E.kindOf hl) (m := lk m) (by rw [E.loc]; exact s.ns) (hv.lk s.kk) (Post.mk' hg (q h s))) hd⟩
theorem W_global (B : Bs c H₀) (E : Ev e L cl nm) (hl : nm.lookup x = some .globalImplicit) (hv : ∀ mg mb h, Names c mg mb h → mg x = some v) (q : Ent (St H₀ H X L m led ims) (Q v))
    (hd : (x == ("__debug__" : Str)) = false := by kernel_rfl) : Ent (St H₀ H X L m led ims) (W c A (eval (.Name x pos) e) Q) :=
  fun h s => ⟨fun _ _ hg => by
    obtain ⟨mg, mb, N⟩ := B.ns
    exact Name_function_global E.kind (E.kindOf hl) (loadGlobal_global (mg := mg) (by rw [E.glb]; exact N.g.keeps s.bs) (hv _ _ _ N) (Post.mk' hg (q h s))) hd⟩
theorem W_fn (k : Nat) (B : Bs c H₀) (E : Ev e L cl nm) (hl : nm.lookup x = some .globalImplicit) (hk : k ∈ defIdx) (hx : sname (stm k) = x) (q : Ent (St H₀ H X L m led ims) (Q (.ref (c.fa k))))
    (hd : (x == ("__debug__" : Str)) = false := by kernel_rfl) : Ent (St H₀ H X L m led ims) (W c A (eval (.Name x pos) e) Q) :=
  W_global B E hl (fun _ _ _ N => hx ▸ N.fn k hk) q hd
theorem W_boot (B : Bs c H₀) (E : Ev e L cl nm) (hl : nm.lookup x = some .globalImplicit) (hm : x ∈ freeNames) (hv : bootBuiltins x = some v) (q : Ent (St H₀ H X L m led ims) (Q v))
    (hn : x ≠ "__name__" := by decide +kernel) (hd : (x == ("__debug__" : Str)) = false := by kernel_rfl) : Ent (St H₀ H X L m led ims) (W c A (eval (.Name x pos) e) Q) :=
  fun h s => ⟨fun _ _ hg => by
    obtain ⟨mg, mb, N⟩ := B.ns
    exact Name_function_global E.kind (E.kindOf hl) (loadGlobal_builtin (mg := mg) (mb := mb) (by rw [E.glb]; exact N.g.keeps s.bs) (N.fr x hm) (by rw [E.bui]; exact N.b.keeps s.bs) ((N.bo x hn).trans hv) (Post.mk' hg (q h s))) hd⟩
theorem W_store (E : Ev e L cl nm) (hl : nm.lookup x = some .local) (se : Se x v m m') (q : Ent (St H₀ H X L m' led ims) (U ())) : Ent (St H₀ H X L m led ims) (W c A (storeName e x v) U) :=
  fun h s => ⟨fun _ _ hg => wpAny_storeName_local (E.kindOf hl) (m := lk m) (by rw [E.loc]; exact s.ns) (fun h' hn hs => Post.mk' hg (q h' (s.store se (by rw [E.loc] at hn; exact hn) (by rw [E.loc] at hs; exact hs))))
    (by rw [E.kind]; rfl)⟩

theorem clHead {a : Addr} {r : List (Str × Addr)} : ((x, a) :: r).lookup x = some a := by rw [List.lookup_cons, beq_self_eq_true]
theorem clTail {y : Str} {a b : Addr} {r : List (Str × Addr)} (h : (x == y) = false) (k : r.lookup x = some a) : ((y, b) :: r).lookup x = some a := by rw [List.lookup_cons, h]; exact k
abbrev CellP (v : Option Value) : OP := fun o => o.data = .cell v
theorem W_cell {ca : Addr} {P : OP} (E : Ev e L cl nm) (hl : nm.lookup x = some .cell) (hc : cl.lookup x = some ca) (hm : (ca, P) ∈ led) (hP : ∀ o, P o → o.data = .cell (some v)) (q : Ent (St H₀ H X L m led ims) (Q v))
    (hd : (x == ("__debug__" : Str)) = false := by kernel_rfl) : Ent (St H₀ H X L m led ims) (W c A (eval (.Name x pos) e) Q) :=
  fun h s => ⟨fun _ _ hg => wpAny_Name (wpAny_loadName_cell E.kind (E.kindOf hl) (by rw [E.cel]; exact hc) (let ⟨o, h1, h2⟩ := s.at hm; ⟨o, h1, hP o h2⟩) (Post.mk' hg (q h s))) hd⟩
theorem W_storeCell {ca : Addr} {v₀ : Option Value} (E : Ev e L cl nm) (hl : nm.lookup x = some .cell) (hc : cl.lookup x = some ca) (u : Up ca (CellP v₀) (CellP (some v)) led led')
    (q : Ent (St H₀ H X L m led' ims) (U ())) : Ent (St H₀ H X L m led ims) (W c A (storeName e x v) U) :=
  fun h s => ⟨fun _ _ hg => wpAny_storeName_cell E.kind (E.kindOf hl) (by rw [E.cel]; exact hc) (s.at u.mem) (fun h' hv hs => Post.mk' hg (q h' (s.upd u (fun b o n e => (hs.2 b (fun q => n (q ▸ .head _))).trans e) hv)))⟩
end
end
section
open PySem PySem.W PyProof.Rows PySem.Calls

/-! ## entering a frame -/
section
variable {c : Cf} {A : Around} {H₀ H h h₁ : Heap} {L : Addr} {m : List (Str × Option Value)} {led : List (Addr × OP)} {ims : List (Value × PyData)}

def le (h h' : Heap) : Prop := ∀ b o, h.get? b = some o → h'.get? b = some o

abbrev cellLed (cl : List (Str × Addr)) (cm : Str → Option Value) : List (Addr × OP) := cl.map fun p => (p.2, CellP (cm p.1))

theorem St.enter (F : List (Addr × OP)) (hb : le H₀ h) (k : ∀ b o, b ∉ led.map (·.1) → h.get? b = some o → h₁.get? b = some o) (hn : h₁.Ns L (lk m)) (kk : (m.map (·.1)).Nodup) (hL : h.get? L = none)
    (hc : ∀ p ∈ F, (∃ o, h₁.get? p.1 = some o ∧ p.2 o) ∧ h.get? p.1 = none ∧ p.1 ≠ L) (ap : (F.map (·.1)).Nodup)
    (hl : ∀ p ∈ led, (∃ o, h.get? p.1 = some o) ∧ ∃ o, h₁.get? p.1 = some o ∧ p.2 o) (h0 : ∀ b ∈ led.map (·.1), H₀.get? b = none) (nd : (led.map (·.1)).Nodup) (hi : ∀ p ∈ ims, ∃ as, Reads (hideAll h (led.map (·.1))) p.1 p.2 as) :
    St H₀ h (led.map (·.1)) L m (F ++ led) ims h₁ := by
  have dis : ∀ b ∈ led.map (·.1), ∃ o, h.get? b = some o := fun b hb => by
    obtain ⟨p, hp, rfl⟩ := List.mem_map.mp hb
    exact (hl p hp).1
  have none0 : ∀ b, h.get? b = none → H₀.get? b = none := fun b e => by
    cases q : H₀.get? b with
    | none => rfl
    | some o => rw [hb b o q] at e; cases e
  have new : ∀ b ∈ L :: F.map (·.1), h.get? b = none := fun b hb => by
    rcases List.mem_cons.mp hb with e | hb
    · exact e ▸ hL
    · obtain ⟨p, hp, rfl⟩ := List.mem_map.mp hb
      exact (hc p hp).2.1
  have two : ∀ b ∈ L :: (F ++ led).map (·.1), b ∈ led.map (·.1) ∨ h.get? b = none := fun b hb => by
    rw [List.map_append] at hb
    rcases List.mem_append.mp (show b ∈ (L :: F.map (·.1)) ++ led.map (·.1) from hb) with hb | hb
    · exact .inr (new b hb)
    · exact .inl hb
  refine ⟨hn, kk, fun b o x e => k b o x e, fun b o e => k b o (fun q => by rw [h0 b q] at e; cases e) (hb b o e), fun b hb => (two b hb).elim (h0 b) (none0 b), fun b hb => two b hb, fun p hp => ?_, ?_, fun p hp => ?_⟩
  · rcases List.mem_append.mp hp with hp | hp
    · exact (hc p hp).1
    · exact (hl p hp).2
  · rw [List.map_append]
    show ((L :: F.map (·.1)) ++ led.map (·.1)).Nodup
    refine List.nodup_append.mpr ⟨List.nodup_cons.mpr ⟨fun q => ?_, ap⟩, nd, fun x hx y hy e => ?_⟩
    · obtain ⟨p, hp, e⟩ := List.mem_map.mp q
      exact (hc p hp).2.2 e
    · subst e
      obtain ⟨o, ho⟩ := dis x hy
      rw [new x hx] at ho; cases ho
  · obtain ⟨as, r⟩ := hi p hp
    exact ⟨as, reads_sub k two r⟩

/-- what a def hands back: the frame's end -/
@[reducible] def retQ (Q : Value → Heap → Prop) : Flow → Heap → Prop
  | .ret v => Q v
  | _ => Q .none

def mk (binds : List (Str × Value)) (rest : List Str) : List (Str × Option Value) := binds.map (fun p => (p.1, some p.2)) ++ rest.map fun x => (x, none)
theorem lk_none : ∀ (rest : List Str) (z : Str), lk (rest.map fun x => (x, none)) z = none
  | [], _ => rfl
  | x :: r, z => by
    show (bif z == x then none else lk (r.map fun x => (x, none)) z) = none
    rw [lk_none r z]; cases z == x <;> rfl
theorem lk_mk (rest : List Str) (z : Str) : ∀ binds : List (Str × Value), lk (mk binds rest) z = binds.lookup z
  | [] => lk_none rest z
  | (x, v) :: r => by
    show (bif z == x then some v else lk (mk r rest) z) = _
    rw [lk_mk rest z r, List.lookup_cons]; cases z == x <;> rfl
theorem lookup_rev (z : Str) : ∀ {binds : List (Str × Value)}, (binds.map (·.1)).Nodup → binds.reverse.lookup z = binds.lookup z
  | [], _ => rfl
  | (x, v) :: r, nd => by
    have nd := List.nodup_cons.mp nd
    rw [List.reverse_cons, List.lookup_append, lookup_rev z nd.2]
    simp only [List.lookup_cons, List.lookup_nil]
    by_cases e : z = x
    · subst e
      have : r.lookup z = none := List.lookup_eq_none_iff.mpr fun p hp => by
        exact bne_iff_ne.mpr fun q => nd.1 (List.mem_map.mpr ⟨p, hp, q.symm⟩)
      simp [this]
    · have : (z == x) = false := beq_eq_false_iff_ne.mpr e
      simp [this]


/-- the names of a def: its parameters, its other locals -/
def chk (scope : Scope) (ps rest : List Str) : Bool := scope.names.all (fun x => x.2 != .cell) && ps.all (fun x => scope.names.lookup x == some .local) && decide (ps ++ rest).Nodup
abbrev bnd (ps : List Str) (vals : List Value) : List (Str × Value) := ps.zip vals
theorem zip_keys : ∀ {ps : List Str} {vals : List Value}, ps.length = vals.length → (bnd ps vals).map (·.1) = ps
  | [], [], _ => rfl
  | _ :: _, _ :: _, h => congrArg (List.cons _) (zip_keys (Nat.succ.inj h))

/-- the def k's own look -/
def dk (k : Nat) : Bool := (sscope (stm k)).kind == .function && !(sscope (stm k)).isCoroutine && !(sscope (stm k)).isGenerator
theorem W_defN {j : Nat} {vals : List Value} {Q : Value → Heap → Prop} {kw : List (Str × Value)} (k : Nat) (ps rest : List Str)
    (B : Bs c H₀) (ok : Ok A (j + 1)) (hb : le H₀ h) (hk : k ∈ defIdx) (hd : dk k = true) (hbind : ∀ pm code doc, bindArgs (dfd k pm code doc) ⟨vals, kw⟩ = pure (bnd ps vals)) (hlen : ps.length = vals.length) (hc : chk (sscope (stm k)) ps rest = true)
    (hl : ∀ p ∈ led, ∃ o, h.get? p.1 = some o ∧ p.2 o) (h0 : ∀ b ∈ led.map (·.1), H₀.get? b = none) (ln : (led.map (·.1)).Nodup) (hi : ∀ p ∈ ims, ∃ as, Reads (hideAll h (led.map (·.1))) p.1 p.2 as)
    (H : ∀ e L A', Ok A' j → Ev e L [] (sscope (stm k)).names → (k = 10 → e.code = .ref c.cc) → Ent (St H₀ h (led.map (·.1)) L (mk (bnd ps vals) rest) led ims) (W c A' (execs (sbody (stm k)) e) (retQ Q))) :
    W c A (call (.ref (c.fa k)) vals kw) Q h := by
  obtain ⟨hk1, nd⟩ := Bool.and_eq_true_iff.mp hc
  obtain ⟨hcell, hloc⟩ := Bool.and_eq_true_iff.mp hk1
  obtain ⟨hd1, hgn⟩ := Bool.and_eq_true_iff.mp hd
  obtain ⟨hkd, hco⟩ := Bool.and_eq_true_iff.mp hd1
  have hkd := beq_iff_eq.mp hkd
  have hco : (sscope (stm k)).isCoroutine = false := by simpa using hco
  have hgn : (sscope (stm k)).isGenerator = false := by simpa using hgn
  have hcell : ∀ x ∈ (sscope (stm k)).names, x.2 ≠ .cell := fun x hx => bne_iff_ne.mp (List.all_eq_true.mp hcell x hx)
  have keys := zip_keys hlen
  have hloc : ∀ x ∈ bnd ps vals, (sscope (stm k)).names.lookup x.1 = some .local := fun x hx => beq_iff_eq.mp (List.all_eq_true.mp hloc x.1 (by rw [← keys]; exact List.mem_map_of_mem (f := Prod.fst) hx))
  have nd : ((bnd ps vals).map (·.1) ++ rest).Nodup := by rw [keys]; exact of_decide_eq_true nd
  refine ⟨fun tk g hg => ?_⟩
  obtain ⟨o, pm, code, doc, h1, h2, h3, h4⟩ := B.fn k hk
  refine wpAny_call (codeAny_call_def (body := sbody (stm k)) (binds := bnd ps vals) ok.room (hb _ _ h1) h2 (B.lim.keeps hb) (h3.keeps hb) rfl (BindsTo.of_eq (hbind _ _ _)) hcell hloc (fun h₁ hns hk => ?_)
    hco hgn hkd)
  have nd1 : ((bnd ps vals).map (·.1)).Nodup := (List.nodup_append.mp nd).1
  have s : St H₀ h (led.map (·.1)) h.objs.size (mk (bnd ps vals) rest) led ims h₁ :=
    St.enter [] hb (fun b o _ e => hk b o e) (by rw [show lk (mk (bnd ps vals) rest) = _ from funext fun z => (lk_mk rest z _).trans (lookup_rev z nd1).symm]; exact hns)
      (by simpa [mk, Function.comp_def] using nd) (fresh_none h (Nat.le_refl _)) (fun _ q => nomatch q) List.nodup_nil (fun p hp => let ⟨o, e, q⟩ := hl p hp; ⟨⟨o, e⟩, o, hk _ _ e, q⟩) h0 ln hi
  have hw := (H (callEnv (dfd k pm code doc) h.objs.size (c.fa k)) h.objs.size (A.deeper (callEnv (dfd k pm code doc) h.objs.size (c.fa k))) ok.deeper ⟨rfl, rfl, rfl, rfl, hkd, rfl⟩ h4 h₁ s).run (tk + (bnd ps vals).length) g hg
  refine wpAny_mono hw (fun f s' x => ?_) fun _ _ x => x.elim
  obtain ⟨h', tk', g', rfl, hg', q⟩ := x
  cases f <;> exact Post.mk' hg' q
theorem W_def0 {j : Nat} {vals : List Value} {Q : Value → Heap → Prop} (k : Nat) (ps rest : List Str)
    (B : Bs c H₀) (ok : Ok A (j + 1)) (hb : le H₀ h) (hi : ∀ p ∈ ims, ∃ as, Reads h p.1 p.2 as)
    (H : ∀ e L A', Ok A' j → Ev e L [] (sscope (stm k)).names → (k = 10 → e.code = .ref c.cc) → Ent (St H₀ h [] L (mk (bnd ps vals) rest) [] ims) (W c A' (execs (sbody (stm k)) e) (retQ Q)))
    (hk : k ∈ defIdx := by decide) (hd : dk k = true := by kernel_rfl) (hc : chk (sscope (stm k)) ps rest = true := by kernel_rfl)
    (hbind : ∀ pm code doc, bindArgs (dfd k pm code doc) ⟨vals, []⟩ = pure (bnd ps vals) := by intros; kernel_rfl) (hlen : ps.length = vals.length := by rfl) :
    W c A (call (.ref (c.fa k)) vals) Q h :=
  W_defN (led := []) k ps rest B ok hb hk hd hbind hlen hc (fun _ q => absurd q List.not_mem_nil) (fun _ q => absurd q List.not_mem_nil) List.nodup_nil hi H
theorem W_def1 {j : Nat} {b : Addr} {P : OP} {vals : List Value} {Q : Value → Heap → Prop} (k : Nat) (ps rest : List Str)
    (B : Bs c H₀) (ok : Ok A (j + 1)) (hb : le H₀ h) (hl : ∃ o, h.get? b = some o ∧ P o) (h0 : H₀.get? b = none) (hi : ∀ p ∈ ims, ∃ as, Reads (hideAll h [b]) p.1 p.2 as)
    (H : ∀ e L A', Ok A' j → Ev e L [] (sscope (stm k)).names → (k = 10 → e.code = .ref c.cc) → Ent (St H₀ h [b] L (mk (bnd ps vals) rest) [(b, P)] ims) (W c A' (execs (sbody (stm k)) e) (retQ Q)))
    (hk : k ∈ defIdx := by decide) (hd : dk k = true := by kernel_rfl) (hc : chk (sscope (stm k)) ps rest = true := by kernel_rfl)
    (hbind : ∀ pm code doc, bindArgs (dfd k pm code doc) ⟨vals, []⟩ = pure (bnd ps vals) := by intros; kernel_rfl) (hlen : ps.length = vals.length := by rfl) :
    W c A (call (.ref (c.fa k)) vals) Q h :=
  W_defN (led := [(b, P)]) k ps rest B ok hb hk hd hbind hlen hc (fun p hp => by rw [List.mem_singleton.mp hp]; exact hl) (fun p hp => by rw [List.mem_singleton.mp hp]; exact h0) (by simp) hi H
end
end
section
open PySem PySem.W PyProof.Rows PySem.Calls

abbrev LsP (xs : List Value) : OP := fun o => ∃ n, o = W.listOf xs.toArray n
/-- the list at a -/
def Ls (h : Heap) (a : Addr) (xs : List Value) : Prop := ∃ o, h.get? a = some o ∧ LsP xs o
theorem Ls.isList {h : Heap} {a : Addr} {xs : List Value} (l : Ls h a xs) : h.IsList a xs.toArray := let ⟨_, e, n, q⟩ := l; PySem.IsL.isList (n := n) (by rw [q] at e; exact e)
theorem sz {n : Nat} (h : n ≤ 1000) : n ≤ sizeLine := by rw [sizeLine_eq]; omega
def bsQ (H₀ : Heap) (T : Heap → Prop) : Heap → Prop := fun h => le H₀ h ∧ T h

section
variable {c : Cf} {A : Around} {e : Env} {S : Heap → Prop} {pos p : Pos} {f : Str} {x : Expr} {rest : List Expr} {Q : Value → Heap → Prop}
  {H₀ H : Heap} {X : List Addr} {L a : Addr} {m : List (Str × Option Value)} {led led' : List (Addr × OP)} {ims : List (Value × PyData)} {cl : List (Str × Addr)} {nm : List (Str × NameKind)}

theorem isBs {T : Heap → Prop} (x : Ent (St H₀ H X L m led ims) T) : Ent (St H₀ H X L m led ims) (bsQ H₀ T) := fun h s => ⟨s.bs, x h s⟩

/-! ### arguments, calls -/
theorem W_items_nil {Q : List Value → Heap → Prop} (q : Ent S (Q [])) : Ent S (W c A (spliced (backTo pos (starEach [] e))) Q) := fun h s => ⟨fun _ _ hg => args_nil (Post.mk' hg (q h s))⟩
theorem W_items {Q : List Value → Heap → Prop} (H : Ent S (W c A (eval x e) (fun v => W c A (spliced (backTo pos (starEach rest e))) (fun vs => Q (v :: vs)))))
    (he : starEach (x :: rest) e = (false, eval x e) :: starEach rest e := by kernel_rfl) : Ent S (W c A (spliced (backTo pos (starEach (x :: rest) e))) Q) :=
  fun h s => ⟨fun _ _ hg => args_cons ((H h s).up hg fun v h' g' tk' hg' x => x.up hg' fun vs h₂ g₂ tk₂ hg₂ q => Post.mk' hg₂ q) he⟩

theorem W_callB (id : String) (B : Bs c H₀) (E : Ev e L cl nm) (H' : Ent (St H₀ H X L m led ims) (W c A (spliced (backTo pos (starEach (x :: rest) e))) (fun vs => W c A (call (.builtin id) vs) Q)))
    (hl : nm.lookup f = some .globalImplicit := by kernel_rfl) (hm : f ∈ freeNames := by decide +kernel) (hv : bootBuiltins f = some (.builtin id) := by kernel_rfl) (hn : f ≠ "__name__" := by decide +kernel) (hd : (f == ("__debug__" : Str)) = false := by kernel_rfl)
    (he : starEach (x :: rest) e = (false, eval x e) :: starEach rest e := by kernel_rfl) (hp : (backTo pos (starEach rest e)).any (·.1) = false := by kernel_rfl)
    (hc : eval (.Call (.Name f p) (x :: rest) [] pos) e = (do callWith pos (← eval (.Name f p) e) [] (backTo pos (starEach (x :: rest) e)) (backToKw pos (keywordEach [] e))) := by kernel_rfl) :
    Ent (St H₀ H X L m led ims) (W c A (eval (.Call (.Name f p) (x :: rest) [] pos) e) Q) := by
  refine fun h s => ⟨fun _ _ hg => Call_ ((W_boot (Q := fun fv => (fun h₁ => fv = .builtin id ∧ W c A (spliced (backTo pos (starEach (x :: rest) e))) (fun vs => W c A (call (.builtin id) vs) Q) h₁)) B E hl hm hv (fun h s => ⟨rfl, H' h s⟩) hn hd h s).up hg fun fv h' g' tk' hg' x => ?_) hc⟩
  obtain ⟨rfl, x⟩ := x
  exact callWith_builtin1 (x.k2 hg') he hp
theorem W_callT (T : String) (B : Bs c H₀) (E : Ev e L cl nm) (H' : Ent (St H₀ H X L m led ims) (W c A (spliced (backTo pos (starEach (x :: rest) e))) (fun vs => W c A (call (.type T) vs) Q)))
    (hl : nm.lookup f = some .globalImplicit := by kernel_rfl) (hm : f ∈ freeNames := by decide +kernel) (hv : bootBuiltins f = some (.type T) := by kernel_rfl) (hn : f ≠ "__name__" := by decide +kernel) (hd : (f == ("__debug__" : Str)) = false := by kernel_rfl)
    (he : starEach (x :: rest) e = (false, eval x e) :: starEach rest e := by kernel_rfl) (hp : (backTo pos (starEach rest e)).any (·.1) = false := by kernel_rfl)
    (hc : eval (.Call (.Name f p) (x :: rest) [] pos) e = (do callWith pos (← eval (.Name f p) e) [] (backTo pos (starEach (x :: rest) e)) (backToKw pos (keywordEach [] e))) := by kernel_rfl) :
    Ent (St H₀ H X L m led ims) (W c A (eval (.Call (.Name f p) (x :: rest) [] pos) e) Q) := by
  refine fun h s => ⟨fun _ _ hg => Call_ ((W_boot (Q := fun fv => (fun h₁ => fv = .type T ∧ W c A (spliced (backTo pos (starEach (x :: rest) e))) (fun vs => W c A (call (.type T) vs) Q) h₁)) B E hl hm hv (fun h s => ⟨rfl, H' h s⟩) hn hd h s).up hg fun fv h' g' tk' hg' x => ?_) hc⟩
  obtain ⟨rfl, x⟩ := x
  rw [he] at x ⊢
  exact PyProof.Rows.callWith_type (by show (false || (backTo pos (starEach rest e)).any (·.1)) = false; rw [hp]; rfl) (evalArgs_plain (x.k2 hg'))
theorem W_callF (k : Nat) (B : Bs c H₀) (E : Ev e L cl nm) (H' : Ent (St H₀ H X L m led ims) (W c A (spliced (backTo pos (starEach (x :: rest) e))) (fun vs => bsQ H₀ (W c A (call (.ref (c.fa k)) vs) Q))))
    (hx : sname (stm k) = f := by kernel_rfl) (hl : nm.lookup f = some .globalImplicit := by kernel_rfl) (hk : k ∈ defIdx := by decide) (hd : (f == ("__debug__" : Str)) = false := by kernel_rfl)
    (he : starEach (x :: rest) e = (false, eval x e) :: starEach rest e := by kernel_rfl)
    (hc : eval (.Call (.Name f p) (x :: rest) [] pos) e = (do callWith pos (← eval (.Name f p) e) [] (backTo pos (starEach (x :: rest) e)) (backToKw pos (keywordEach [] e))) := by kernel_rfl) :
    Ent (St H₀ H X L m led ims) (W c A (eval (.Call (.Name f p) (x :: rest) [] pos) e) Q) := by
  obtain ⟨o, pm, code, doc, h1, h2, _⟩ := B.fn k hk
  refine fun h s => ⟨fun _ _ hg => Call_ ((W_fn (Q := fun fv => (fun h₁ => fv = .ref (c.fa k) ∧ W c A (spliced (backTo pos (starEach (x :: rest) e))) (fun vs => bsQ H₀ (W c A (call (.ref (c.fa k)) vs) Q)) h₁)) k B E hl hk hx (fun h s => ⟨rfl, H' h s⟩) hd h s).up hg fun fv h' g' tk' hg' x => ?_) hc⟩
  obtain ⟨rfl, x⟩ := x
  exact callWith_def h2 (x.up hg' fun vs h₂ g₂ tk₂ hg₂ q => ⟨q.1 _ _ h1, q.2.run tk₂ g₂ hg₂⟩) he

/-- what a def does that turns the object a -/
def TurnQ (h : Heap) (a : Addr) (V : Value → Prop) (P : OP) : Value → Heap → Prop := fun v h' => V v ∧ Kp [a] h h' ∧ ∃ o, h'.get? a = some o ∧ P o
/-- a def that turns one list of the ledger -/
theorem E_call1 {t : Sem Value} {P P' : OP} (V : Value → Prop) (u : Up a P P' led led')
    (C : ∀ h, St H₀ H X L m led ims h → W c A t (TurnQ h a V P') h) (q : ∀ v, V v → Ent (St H₀ H X L m led' ims) (Q v)) : Ent (St H₀ H X L m led ims) (W c A t Q) :=
  fun h s => (C h s).mono fun v h' ⟨hv, k, o⟩ => q v hv h' (s.upd u k o)
/-- a value made anew, read where all older things are hidden -/
def Ret (h h' : Heap) (v : Value) (d : PyData) : Prop := ∃ as, Reads (hideAll h' (List.range h.objs.size)) v d as
theorem Ret.im {h h' : Heap} {v : Value} {d : PyData} (r : Ret h h' v d) (s : St H₀ H X L m led ims h) (k : le h h') : St H₀ H X L m led ((v, d) :: ims) h' := by
  have s' := s.grow k
  obtain ⟨as, r⟩ := r
  exact s'.addIm (reads_sub (fun _ _ _ e => e) (fun b hb => .inl (List.mem_range.mpr (s.inH hb))) r)
/-- a def that makes a value anew -/
theorem E_call0 {t : Sem Value} {d : PyData} (C : ∀ h, St H₀ H X L m led ims h → W c A t (fun v h' => le h h' ∧ Ret h h' v d) h) (q : ∀ v, Ent (St H₀ H X L m led ((v, d) :: ims)) (Q v)) : Ent (St H₀ H X L m led ims) (W c A t Q) :=
  fun h s => (C h s).mono fun v h' ⟨k, r⟩ => q v h' (r.im s k)
/-- a def that hands back a plain value -/
theorem E_callV {t : Sem Value} (V : Value → Prop) (C : ∀ h, St H₀ H X L m led ims h → W c A t (fun v h' => le h h' ∧ V v) h) (q : ∀ v, V v → Ent (St H₀ H X L m led ims) (Q v)) : Ent (St H₀ H X L m led ims) (W c A t Q) :=
  fun h s => (C h s).mono fun v h' ⟨k, r⟩ => q v r h' (s.grow k)

/-- a method of a text -/
theorem W_meth {T id : String} {o : Expr} {name : Str} {apos : Pos} (pa : PlainAttrs T) (slot : Slot T name id) (hty : typeOf (.builtin id) = pure (.type "method_descriptor"))
    (H : Ent S (W c A (eval o e) (fun ov h₁ => (∀ tk g, (Sh c h₁ g tk).TypeIs ov T) ∧ (∀ a, ov = .ref a → ∃ ob, h₁.get? a = some ob ∧ ob.dict = none) ∧
      W c A (spliced (backTo pos (starEach (x :: rest) e))) (fun vs => W c A (call (.builtin id) (ov :: vs)) Q) h₁)))
    (hbase : attributeBase o name e (eval o e) = eval o e)
    (hfew : ((backTo pos (starEach (x :: rest) e)).all (fun x => !x.1) && (backToKw pos (keywordEach [] e)).all (fun x => x.1.isSome)
      && decide ((x :: rest).length + ([] : List Keyword).length + (if ([] : List Keyword).isEmpty then 0 else 1) < 30)) = true)
    (hline : (apos.endLine == pos.line) = true) (he : starEach (x :: rest) e = (false, eval x e) :: starEach rest e) (hp : (backTo pos (starEach rest e)).any (·.1) = false) :
    Ent S (W c A (eval (.Call (.Attribute o name apos) (x :: rest) [] pos) e) Q) :=
  fun h s => ⟨fun _ _ hg => wpAny_Call_method hbase hfew hline pa slot hty ((H h s).up hg fun ov h' g' tk' hg' x => ⟨x.1 _ _, x.2.1, callWith_method1 (x.2.2.k2 hg') he hp⟩)⟩
/-- the value is a text -/
def strQ (K : Str → Tok → Heap → Prop) : Value → Heap → Prop := fun v h => ∃ y t, v = .str y t ∧ K y t h
theorem isStr {K : Str → Tok → Heap → Prop} {y : Str} {t : Tok} (k : Ent S (K y t)) : Ent S (strQ K (.str y t)) := fun h s => ⟨y, t, rfl, k h s⟩
theorem W_ms {id : String} {o : Expr} {name : Str} {apos : Pos} (slot : Slot "str" name id) (hty : typeOf (.builtin id) = pure (.type "method_descriptor"))
    (H : Ent S (W c A (eval o e) (strQ fun y t => W c A (spliced (backTo pos (starEach (x :: rest) e))) (fun vs => W c A (call (.builtin id) (.str y t :: vs)) Q))))
    (hbase : attributeBase o name e (eval o e) = eval o e := by kernel_rfl)
    (hfew : ((backTo pos (starEach (x :: rest) e)).all (fun x => !x.1) && (backToKw pos (keywordEach [] e)).all (fun x => x.1.isSome)
      && decide ((x :: rest).length + ([] : List Keyword).length + (if ([] : List Keyword).isEmpty then 0 else 1) < 30)) = true := by kernel_rfl)
    (hline : (apos.endLine == pos.line) = true := by kernel_rfl) (he : starEach (x :: rest) e = (false, eval x e) :: starEach rest e := by kernel_rfl) (hp : (backTo pos (starEach rest e)).any (·.1) = false := by kernel_rfl) :
    Ent S (W c A (eval (.Call (.Attribute o name apos) (x :: rest) [] pos) e) Q) :=
  W_meth F.plainAttrs_str slot hty (fun h s => (H h s).mono fun ov h₁ q => by
    obtain ⟨y, t, rfl, k⟩ := q
    exact ⟨fun tk g => typeIs_str _ _ _, fun a q => (nomatch q), k⟩) hbase hfew hline he hp
/-- a method of a list that a local name holds -/
theorem W_ml {id : String} {o : Str} {name : Str} {apos : Pos} {P : OP} (slot : Slot "list" name id) (hty : typeOf (.builtin id) = pure (.type "method_descriptor")) (E : Ev e L cl nm) (hv : Lo o (.ref a) m) (hm : (a, P) ∈ led) (hP : ∀ ob, P ob → ∃ xs, LsP xs ob)
    (H' : Ent (St H₀ H X L m led ims) (W c A (spliced (backTo pos (starEach (x :: rest) e))) (fun vs => W c A (call (.builtin id) (.ref a :: vs)) Q))) (hl : nm.lookup o = some .local := by kernel_rfl) (hd : (o == ("__debug__" : Str)) = false := by kernel_rfl)
    (hbase : attributeBase (.Name o p) name e (eval (.Name o p) e) = eval (.Name o p) e := by kernel_rfl)
    (hfew : ((backTo pos (starEach (x :: rest) e)).all (fun x => !x.1) && (backToKw pos (keywordEach [] e)).all (fun x => x.1.isSome)
      && decide ((x :: rest).length + ([] : List Keyword).length + (if ([] : List Keyword).isEmpty then 0 else 1) < 30)) = true := by kernel_rfl)
    (hline : (apos.endLine == pos.line) = true := by kernel_rfl) (he : starEach (x :: rest) e = (false, eval x e) :: starEach rest e := by kernel_rfl) (hp : (backTo pos (starEach rest e)).any (·.1) = false := by kernel_rfl) :
    Ent (St H₀ H X L m led ims) (W c A (eval (.Call (.Attribute (.Name o p) name apos) (x :: rest) [] pos) e) Q) := by
  refine W_meth F.plainAttrs_list slot hty (W_local E hl hv (fun h s => ?_) hd) hbase hfew hline he hp
  obtain ⟨ob, h1, h2⟩ := s.at hm
  obtain ⟨xs, n, rfl⟩ := hP ob h2
  exact ⟨fun tk g => ⟨_, h1, rfl⟩, fun b e => by cases e; exact ⟨_, h1, rfl⟩, H' h s⟩

/-! ### lists, tuples -/
abbrev tupOf (vs : List Value) : Obj := { cls := .type "tuple", data := .seq vs.toArray }
def NewTup (Q : Value → Heap → Prop) (vs : List Value) : Heap → Prop := fun h => vs.length ≤ 1000 ∧ Q (.ref h.objs.size) (h.push (tupOf vs))
def NewLs (Q : Value → Heap → Prop) (vs : List Value) : Heap → Prop := fun h => vs.length ≤ 1000 ∧ Q (.ref h.objs.size) (h.push (W.listOf vs.toArray 0))
theorem W_Tuple {elts : List Expr} {k : Nat} (H : Ent S (W c A (spliced (backTo pos (starEach elts e))) (NewTup Q))) : Ent S (W c A (eval (.Tuple elts k pos) e) Q) :=
  fun h s => ⟨fun _ _ hg => wpAny_Tuple ((H h s).up hg fun vs h' g' tk' hg' x => ⟨sz x.1, Post.mk' hg' x.2⟩)⟩
theorem W_List {elts : List Expr} (H : Ent S (W c A (spliced (backTo pos (starEach elts e))) (NewLs Q))) : Ent S (W c A (eval (.List elts pos) e) Q) :=
  fun h s => ⟨fun _ _ hg => wpAny_List ((H h s).up hg fun vs h' g' tk' hg' x => ⟨sz x.1, Post.mk' hg' x.2⟩)⟩
theorem newTup {vs : List Value} (hl : vs.length ≤ 1000) (q : ∀ a, Ent (fun h => St H₀ H X L m led ims h ∧ IsTup h a vs.toArray) (Q (.ref a))) : Ent (St H₀ H X L m led ims) (NewTup Q vs) :=
  fun h s => ⟨hl, q _ _ ⟨s.grow fun b o e => Heap.get?_push_of_some _ e, _, Heap.get?_push_size _ rfl, rfl, 0, rfl⟩⟩
theorem newLs {vs : List Value} (P : OP) (hp : P (W.listOf vs.toArray 0)) (hl : vs.length ≤ 1000) (q : ∀ a, Ent (St H₀ H X L m ((a, P) :: led) ims) (Q (.ref a))) : Ent (St H₀ H X L m led ims) (NewLs Q vs) :=
  fun h s => ⟨hl, q _ _ (s.pushLed rfl hp)⟩
theorem W_AssignTup {elts : List Expr} {k : Nat} {tp : Pos} {value : Expr} {Q : Flow → Heap → Prop} (hw : swappedStores [.Tuple elts k tp] value e = pure none) (H : Ent S (W c A (eval value e) (fun v => W c A (assign (.Tuple elts k tp) e v) (fun _ => Q .next))))
    (hs : swapsWithSole [.Tuple elts k tp] value pos.line e = pure false := by kernel_rfl) : Ent S (W c A (exec (.Assign [.Tuple elts k tp] value pos) e) Q) :=
  fun h s => ⟨fun _ _ hg => Assign_Tuple ((H h s).up hg fun _ _ _ _ hg' x => x.up hg' fun _ _ _ _ hg'' q => Post.mk' hg'' q) hs hw⟩
theorem swapped_sub {x : Str} {p p2 p3 tp : Pos} {o i v1 v2 : Expr} {k k2 : Nat} {e : Env} : swappedStores [.Tuple [.Name x p, .Subscript o i p2] k tp] (.Tuple [v1, v2] k2 p3) e = pure none := by
  unfold swappedStores
  simp only [List.filterMap_cons, List.filterMap_nil]
  repeat' split
  all_goals first | rfl | (simp_all; done)
theorem aSub {M : Model} {A : Around} {E : Value → Shared → Prop} {s : Shared} {env : Env} {o i : Expr} {pos : Pos} {v : Value} {Q : Unit → Shared → Prop}
    (h : wpAny M A (eval o env) (fun ov s₂ => wpAny M A (eval i env) (fun iv s₃ => wpAny M A (setItem ov iv v) Q E s₃) E s₂) E s) : wpAny M A (assign (.Subscript o i pos) env v) Q E s := by
  rw [assign_Subscript]
  exact wpAny_bind (wpAny_holding (wpAny_mono h (fun ov s₂ h₂ => wpAny_bind (wpAny_holding (wpAny_mono h₂ (fun iv s₃ h₃ => wpAny_bind (wpAny_standAt (wpAny_bind (wpAny_holding (wpAny_mono h₃ (fun _ _ q => wpAny_release q) fun _ _ q => q))))) fun _ _ q => q))) fun _ _ q => q))
theorem setAt {prog : Program} {w : World} {A : Around} {E : Value → Shared → Prop} {s : Shared} {l : Addr} {items : Array Value} {n : Nat} {k : Int} {t : Tok} {v : Value} {Q : Unit → Shared → Prop} (ho : s.heap.get? l = some (W.listOf items n)) (h0 : 0 ≤ k) (h1 : k < 2 ^ 63) (h2 : k < items.size)
    (q : Q () { s with heap := s.heap.update l (Obj.mapSeq (·.setIfInBounds k.toNat v)) }) : wpAny (model prog w) A (setItem (.ref l) (.int k t) v) Q E s := by
  have hl : s.heap.IsList l items := PySem.IsL.isList (n := n) ho
  unfold setItem
  refine wpAny_holding ?_
  refine wpAny_bind (wpAny_sequenceKey hl.typeIs (by decide) ?_)
  refine wpAny_bind (wpAny_callSpecial?_slot (name := Str.ofString "__setitem__") hl.typeIs slot_list_setitem
    (wpAny_call_entry slot_list_setitem hl.typeIs entry_list_setitem ?_ (args_list_setitem _ _ _)))
  show wpAny _ _ (Builtin.List.listSubscript? (.int k t) >>= _) _ _ s
  refine wpAny_bind (wpAny_listSubscript_int (fitsIndex_of h0 h1) ?_)
  clear h1
  obtain ⟨j, rfl⟩ := Int.eq_ofNat_of_zero_le h0
  show wpAny _ _ ((seqItemAt l j >>= fun r => pure (r.map (j, ·))) >>= _) _ _ s
  refine wpAny_bind (wpAny_bind (wpAny_seqItemAt ho rfl (wpAny_pure ?_)))
  rw [Array.getElem?_eq_getElem (show j < items.size by omega)]
  show wpAny _ _ (setSeqItemAt l j v >>= _) _ _ s
  exact wpAny_bind (wpAny_setSeqItemAt ho rfl (wpAny_bind (wpAny_pure (wpAny_pure ⟨.none, rfl, wpAny_pure q⟩))))
theorem W_aName {y : Str} {v : Value} {Q : Unit → Heap → Prop} (H : Ent S (W c A (storeName e y v) Q)) : Ent S (W c A (assign (.Name y pos) e v) Q) := fun h s => ⟨fun _ _ hg => assign_Name ((H h s).k1 hg)⟩
theorem W_aSub {o i : Expr} {v : Value} {Q : Unit → Heap → Prop} (H : Ent S (W c A (eval o e) (fun ov => W c A (eval i e) (fun iv => W c A (setItem ov iv v) Q)))) : Ent S (W c A (assign (.Subscript o i pos) e v) Q) :=
  fun h s => ⟨fun _ _ hg => aSub ((H h s).up hg fun _ _ _ _ hg' x => x.up hg' fun _ _ _ _ hg'' y => y.up hg'' fun _ _ _ _ hg₃ q => Post.mk' hg₃ q)⟩
theorem W_aPair {t1 t2 : Expr} {k : Nat} {x y : Value} {Q : Unit → Heap → Prop} (ok : A.handled = none)
    (K : Ent (St H₀ H X L m led ims) (W c A (assign t1 e x) (fun _ => W c A (assign t2 e y) Q)))
    (he : assignEach [t1, t2] e = [(false, assign t1 e), (false, assign t2 e)] := by kernel_rfl) : Ent (fun h => St H₀ H X L m led ims h ∧ IsTup h a #[x, y]) (W c A (assign (.Tuple [t1, t2] k pos) e (.ref a)) Q) := by
  rintro h ⟨s, ht⟩
  refine ⟨fun tk g hg => assign_Tuple_tuple ok ht (by rw [he]; rfl) (by rw [he]; rfl) fun h' hx => ?_⟩
  rw [he]
  have z := (K h' (s.grow fun b o q => hx b o (Nat.ne_of_lt (Heap.lt_size q)) q)).k2 (tk := tk) (g := g) hg
  show wpAny _ _ (do holding [y] (assign t1 e x); holding [] (assign t2 e y); pure ()) _ _ _
  exact wpAny_bind (wpAny_holding (wpAny_mono z (fun _ s₁ q => wpAny_bind (wpAny_holding (wpAny_mono q (fun _ _ r => wpAny_pure r) fun _ _ x => x))) fun _ _ x => x))
theorem W_setSub {o i value : Expr} {pos' : Pos} {Q : Flow → Heap → Prop} (H : Ent S (W c A (eval value e) (fun v => W c A (eval o e) (fun ov => W c A (eval i e) (fun iv => W c A (setItem ov iv v) (fun _ => Q .next))))))
    (hs : swapsWith value (some (.Subscript o i pos')) pos.line e = pure false := by kernel_rfl) : Ent S (W c A (exec (.Assign [.Subscript o i pos'] value pos) e) Q) :=
  fun h s => ⟨fun _ _ hg => wpAny_Assign_Subscript ((H h s).up hg fun _ _ _ _ hg' x => x.up hg' fun _ _ _ _ hg₂ y => y.up hg₂ fun _ _ _ _ hg₃ z => z.up hg₃ fun _ _ _ _ hg₄ q => Post.mk' hg₄ q) hs⟩

/-! ### lists of ints -/
abbrev IL (ns : List Int) : OP := fun o => ∃ vs n, IntsAre vs ns ∧ o = W.listOf vs.toArray n
theorem IL.ls {ns : List Int} {o : Obj} (q : IL ns o) : ∃ xs, LsP xs o := let ⟨vs, n, _, e⟩ := q; ⟨vs, n, e⟩
def Is (h : Heap) (a : Addr) (ns : List Int) : Prop := ∃ o, h.get? a = some o ∧ IL ns o
theorem ia_get {k : Nat} {d : Int} : ∀ {vs : List Value} {ns : List Int}, IntsAre vs ns → k < ns.length → ∃ t, vs[k]? = some (.int (ns.getD k d) t)
  | _, _, .nil, h => absurd h (Nat.not_lt_zero _)
  | _, _, .cons n t r, h => by
    cases k with
    | zero => exact ⟨t, rfl⟩
    | succ k => obtain ⟨t, e⟩ := ia_get (k := k) (d := d) r (by simpa using h); exact ⟨t, by simpa using e⟩
theorem ia_set {x : Int} {u : Tok} {k : Nat} : ∀ {vs : List Value} {ns : List Int}, IntsAre vs ns → IntsAre (vs.set k (.int x u)) (ns.set k x)
  | _, _, .nil => .nil
  | _, _, .cons n t r => by
    cases k with
    | zero => exact .cons _ _ r
    | succ k => exact .cons _ _ (ia_set r)
theorem ls_upd {h : Heap} {a : Addr} {xs ys : List Value} {n : Nat} (ho : h.get? a = some (W.listOf xs.toArray n)) (f : Array Value → Array Value) (e : f xs.toArray = ys.toArray) :
    ∃ o, (h.update a (Obj.mapSeq f)).get? a = some o ∧ LsP ys o := by
  have q := PySem.IsL.update (n := n) ho f
  rw [e] at q
  exact ⟨_, q, _, rfl⟩
variable {ns : List Int}
theorem Is.ls {h : Heap} (l : Is h a ns) : ∃ vs, IntsAre vs ns ∧ Ls h a vs := let ⟨o, e, vs, n, i, q⟩ := l; ⟨vs, i, o, e, n, q⟩
theorem St.is {h : Heap} (s : St H₀ H X L m led ims h) (hm : (a, IL ns) ∈ led) : Is h a ns := s.at hm
theorem i_sub {k : Int} {t : Tok} {ve se : Expr} (j : Nat) (hm : (a, IL ns) ∈ led) (hk : k = (j : Int)) (h1 : j < ns.length) (hf : ns.length ≤ 1000) (q : ∀ t, Ent (St H₀ H X L m led ims) (Q (.int (ns.getD j 0) t)))
    (hs : subscripted se false (.ref a) (.int k t) = operate [.ref a, .int k t] (getItem (.ref a) (.int k t)) := by kernel_rfl) : Ent (St H₀ H X L m led ims) (W c A (subscriptTail ve se (.ref a) (.int k t)) Q) := by
  subst hk
  intro h s
  obtain ⟨vs, i, l⟩ := (s.is hm).ls
  obtain ⟨u, e⟩ := ia_get (d := 0) i h1
  exact ⟨fun _ _ hg => tail_any (Heap.IsList.typeIs (s := Sh c h _ _) l.isList) slot_list_getitem.lookup (wpAny_getItem_list l.isList (by omega) (by omega) (by simpa using e) (Post.mk' hg (q u h s))) hs⟩
theorem i_set {k x : Int} {t u : Tok} {Q : Unit → Heap → Prop} (j : Nat) (u' : Up a (IL ns) (IL (ns.set j x)) led led') (hk : k = (j : Int)) (h1 : j < ns.length) (hf : ns.length ≤ 1000)
    (q : Ent (St H₀ H X L m led' ims) (Q ())) : Ent (St H₀ H X L m led ims) (W c A (setItem (.ref a) (.int k t) (.int x u)) Q) := by
  subst hk
  intro h s
  obtain ⟨o, ho, vs, n, i, rfl⟩ := s.at u'.mem
  have hn : j < vs.length := by rw [i.length]; exact h1
  refine ⟨fun _ _ hg => setAt ho (by omega) (by omega) (by simpa using hn) (Post.mk' hg (q _ (s.upd u' (fun b o n e => ((Heap.SameBut.update ..).2 b (fun q => n (q ▸ .head _))).trans e) ?_)))⟩
  obtain ⟨o, h1, n, h2⟩ := ls_upd (ys := vs.set j (.int x u)) ho (fun y => y.setIfInBounds j (.int x u)) (by simp)
  exact ⟨o, h1, _, n, ia_set i, h2⟩
theorem i_append {x : Int} {u : Tok} (u' : Up a (IL ns) (IL (ns ++ [x])) led led') (hf : ns.length ≤ 1000) (q : Ent (St H₀ H X L m led' ims) (Q .none)) : Ent (St H₀ H X L m led ims) (W c A (call (.builtin "list.append") [.ref a, .int x u]) Q) := by
  intro h s
  obtain ⟨o, ho, vs, n, i, rfl⟩ := s.at u'.mem
  have hn : vs.length ≤ sizeLine := by rw [i.length, sizeLine_eq]; omega
  exact ⟨fun _ _ hg => append_at ho (fun h' hs hd => Post.mk' hg (q h' (s.upd u' (fun b o n e => (hs.2 b (fun q => n (q ▸ .head _))).trans e) ⟨_, hd, vs ++ [.int x u], n + 1, i.append (.cons _ _ .nil), by simp⟩))) (by simpa using hn)⟩
theorem l_append {xs : List Value} {x : Value} (u : Up a (LsP xs) (LsP (xs ++ [x])) led led') (hf : xs.length ≤ 1000) (q : Ent (St H₀ H X L m led' ims) (Q .none)) : Ent (St H₀ H X L m led ims) (W c A (call (.builtin "list.append") [.ref a, x]) Q) := by
  intro h s
  obtain ⟨o, ho, n, rfl⟩ := s.at u.mem
  exact ⟨fun _ _ hg => append_at ho (fun h' hs hd => Post.mk' hg (q h' (s.upd u (fun b o n e => (hs.2 b (fun q => n (q ▸ .head _))).trans e) ⟨_, hd, n + 1, by simp⟩))) (by simpa using sz hf)⟩
theorem i_len (hm : (a, IL ns) ∈ led) (hf : ns.length ≤ 1000) (q : ∀ t, Ent (St H₀ H X L m led ims) (Q (.int ns.length t))) : Ent (St H₀ H X L m led ims) (W c A (call (.builtin "len") [.ref a]) Q) := by
  intro h s
  obtain ⟨vs, i, l⟩ := (s.is hm).ls
  have hn : vs.length = ns.length := i.length
  exact ⟨fun _ _ hg => call_len_list l.isList (by rw [List.size_toArray]; omega) (by rw [List.size_toArray, hn]; exact Post.mk' hg (q _ h s))⟩
theorem i_true {Q : Bool → Heap → Prop} (hm : (a, IL ns) ∈ led) (hf : ns.length ≤ 1000) (q : Ent (St H₀ H X L m led ims) (Q (!ns.isEmpty))) : Ent (St H₀ H X L m led ims) (W c A (truthy (.ref a)) Q) := by
  intro h s
  obtain ⟨vs, i, l⟩ := (s.is hm).ls
  have hn : vs.length = ns.length := i.length
  exact ⟨fun _ _ hg => wpAny_truthy_list l.isList (by rw [List.size_toArray]; omega) (by rw [List.isEmpty_toArray, show vs.isEmpty = ns.isEmpty from by cases i <;> rfl]; exact Post.mk' hg (q h s))⟩
end
end
section
open PySem PySem.W PyProof.Rows PySem.Calls
def sd (xs : List Int) (x : Int) (p : Nat) : List Int :=
  if h : 0 < p then
    if x < xs.getD ((p - 1) / 2) 0 then sd (xs.set p (xs.getD ((p - 1) / 2) 0)) x ((p - 1) / 2) else xs.set p x
  else xs.set p x
termination_by p
decreasing_by omega

theorem sd_zero {xs : List Int} {x : Int} : sd xs x 0 = xs.set 0 x := by rw [sd, dif_neg (Nat.lt_irrefl _)]
theorem sd_lt {xs : List Int} {x : Int} {p : Nat} (h : 0 < p) (l : x < xs.getD ((p - 1) / 2) 0) : sd xs x p = sd (xs.set p (xs.getD ((p - 1) / 2) 0)) x ((p - 1) / 2) := by rw [sd, dif_pos h, if_pos l]
theorem sd_ge {xs : List Int} {x : Int} {p : Nat} (l : ¬ x < xs.getD ((p - 1) / 2) 0) : sd xs x p = xs.set p x := by
  by_cases h : 0 < p
  · rw [sd, dif_pos h, if_neg l]
  · rw [sd, dif_neg h]

def su (xs : List Int) (p : Nat) : List Int × Nat :=
  if h : 2 * p + 1 < xs.length then
    if 2 * p + 2 < xs.length ∧ ¬ xs.getD (2 * p + 1) 0 < xs.getD (2 * p + 2) 0 then su (xs.set p (xs.getD (2 * p + 2) 0)) (2 * p + 2) else su (xs.set p (xs.getD (2 * p + 1) 0)) (2 * p + 1)
  else (xs, p)
termination_by xs.length - p
decreasing_by all_goals (rw [List.length_set]; omega)
theorem su_end {xs : List Int} {p : Nat} (h : ¬ 2 * p + 1 < xs.length) : su xs p = (xs, p) := by rw [su, dif_neg h]
theorem su_r {xs : List Int} {p : Nat} (h : 2 * p + 2 < xs.length) (l : ¬ xs.getD (2 * p + 1) 0 < xs.getD (2 * p + 2) 0) : su xs p = su (xs.set p (xs.getD (2 * p + 2) 0)) (2 * p + 2) := by
  rw [su, dif_pos (Nat.lt_of_succ_lt h), if_pos ⟨h, l⟩]
theorem su_l {xs : List Int} {p : Nat} (h : 2 * p + 1 < xs.length) (l : ¬ (2 * p + 2 < xs.length ∧ ¬ xs.getD (2 * p + 1) 0 < xs.getD (2 * p + 2) 0)) : su xs p = su (xs.set p (xs.getD (2 * p + 1) 0)) (2 * p + 1) := by
  rw [su, dif_pos h, if_neg l]

end
section
open PySem PySem.W PyProof.Rows PySem.Calls

section
variable {H₀ H h : Heap} {X : List Addr} {L a : Addr} {m : List (Str × Option Value)} {led led' : List (Addr × OP)} {ims ims' : List (Value × PyData)}
/-- some of what is known is forgotten -/
theorem St.forget (s : St H₀ H X L m led ims h) (k : led'.Sublist led) (i : ∀ p ∈ ims', p ∈ ims) : St H₀ H X L m led' ims' h := by
  have sub : ∀ b ∈ L :: led'.map (·.1), b ∈ L :: led.map (·.1) := fun b hb => by
    rcases List.mem_cons.mp hb with e | hb
    · exact e ▸ .head _
    · exact .tail _ ((k.map _).subset hb)
  refine ⟨s.ns, s.kk, s.kp, s.bs, fun b hb => s.nb b (sub b hb), fun b hb => s.nh b (sub b hb), fun p hp => s.ld p (k.subset hp), ?_, fun p hp => ?_⟩
  · exact (List.Sublist.cons_cons L (k.map _)).nodup s.nd
  · obtain ⟨as, r⟩ := s.im p (i p hp)
    exact ⟨as, reads_sub (fun _ _ _ e => e) (fun b hb => .inl (sub b hb)) r⟩
theorem Ent.weak {T : Heap → Prop} (k : led'.Sublist led) (i : ∀ p ∈ ims', p ∈ ims) (x : Ent (St H₀ H X L m led' ims') T) : Ent (St H₀ H X L m led ims) T := fun h s => x h (s.forget k i)
end

/-! ### iterators -/
abbrev LI (ax : Addr) (i : Nat) : OP := fun o => o.cls = .type "list_iterator" ∧ o.data = .fields #[.ref ax, .int i 0]
abbrev RI (a c : Int) (n i : Nat) : OP := fun o => o = { cls := .type "range_iterator", dict := none, data := .fields #[rawInt (a + (i : Nat) * c), rawInt ((n : Int) - (i : Nat)), rawInt c], slots := #[] }
/-- the object I hands out ds, one by one -/
structure Nexts (c : Cf) (A : Around) (P : Nat → OP) (ds : List PyData) (rq : List (Addr × OP) → List (Value × PyData) → Prop) : Prop where
  item : ∀ {H₀ H : Heap} {X : List Addr} {L I : Addr} {m : List (Str × Option Value)} {led : List (Addr × OP)} {ims : List (Value × PyData)} {Q : Option Value → Heap → Prop} (i : Nat) (d : PyData), ds[i]? = some d → rq led ims →
    (∀ v, Ent (St H₀ H X L m ((I, P (i + 1)) :: led) ((v, d) :: ims)) (Q (some v))) → Ent (St H₀ H X L m ((I, P i) :: led) ims) (W c A (pyNext (.ref I)) Q)
  fin : ∀ {H₀ H : Heap} {X : List Addr} {L I : Addr} {m : List (Str × Option Value)} {led : List (Addr × OP)} {ims : List (Value × PyData)} {Q : Option Value → Heap → Prop}, rq led ims →
    Ent (St H₀ H X L m led ims) (Q none) → Ent (St H₀ H X L m ((I, P ds.length) :: led) ims) (W c A (pyNext (.ref I)) Q)
  self : ∀ {H₀ H : Heap} {X : List Addr} {L I : Addr} {m : List (Str × Option Value)} {led : List (Addr × OP)} {ims : List (Value × PyData)} {Q : Value → Heap → Prop} (i : Nat), rq led ims →
    Ent (St H₀ H X L m ((I, P i) :: led) ims) (Q (.ref I)) → Ent (St H₀ H X L m ((I, P i) :: led) ims) (W c A (pyIter (.ref I)) Q)
theorem readsAll_at {h : Heap} {d : PyData} : ∀ {vs : List Value} {ds : List PyData} {as : List Addr} (i : Nat), ReadsAll h vs ds as → ds[i]? = some d → ∃ v bs, vs[i]? = some v ∧ Reads h v d bs
  | _, _, _, _, .nil, e => by simp at e
  | _, _, _, 0, .cons r rs, e => by cases e; exact ⟨_, _, rfl, r⟩
  | _, _, _, i + 1, .cons r rs, e => readsAll_at i rs (by simpa using e)
theorem readsAll_len {h : Heap} : ∀ {vs : List Value} {ds : List PyData} {as : List Addr}, ReadsAll h vs ds as → vs.length = ds.length
  | _, _, _, .nil => rfl
  | _, _, _, .cons _ rs => congrArg (· + 1) (readsAll_len rs)
theorem readsAll_of {h : Heap} : ∀ {vs : List Value} {ds : List PyData}, vs.length = ds.length → (∀ p ∈ vs.zip ds, ∃ as, Reads h p.1 p.2 as) → ∃ as, ReadsAll h vs ds as
  | [], [], _, _ => ⟨_, .nil⟩
  | v :: vs, d :: ds, e, k => by
    obtain ⟨as, r⟩ := k (v, d) (.head _)
    obtain ⟨bs, rs⟩ := readsAll_of (Nat.succ.inj e) fun p hp => k p (.tail _ hp)
    exact ⟨_, .cons r rs⟩
theorem reads_list {h : Heap} {ax : Addr} {ds : List PyData} {as : List Addr} (r : Reads h (.ref ax) (.list ds) as) : ∃ o vs n bs, h.get? ax = some o ∧ o.cls = .type "list" ∧ o.data = .seq vs n ∧ ReadsAll h vs.toList ds bs := by
  cases r with
  | list h1 h2 h3 h4 => exact ⟨_, _, _, _, h1, h2, h3, h4⟩

theorem St.dropL {H₀ H h h' : Heap} {X : List Addr} {L I : Addr} {P : OP} {m m' : List (Str × Option Value)} {led : List (Addr × OP)} {ims : List (Value × PyData)} (s : St H₀ H X L m ((I, P) :: led) ims h) (hn : h'.Ns L (lk m')) (kk : (m'.map (·.1)).Nodup)
    (k : ∀ b o, b ≠ I → b ≠ L → h.get? b = some o → h'.get? b = some o) : St H₀ H X L m' led ims h' := by
  have nd := s.nd
  simp only [List.map_cons, List.nodup_cons, List.mem_cons, not_or] at nd
  have out : ∀ b o, b ∉ X → H.get? b = some o → b ≠ I ∧ b ≠ L := fun b o x e => by
    refine ⟨fun q => ?_, fun q => ?_⟩
    · rcases s.nh b (by rw [q]; exact .tail _ (.head _)) with y | y
      · exact x y
      · rw [y] at e; cases e
    · rcases s.nh b (by rw [q]; exact .head _) with y | y
      · exact x y
      · rw [y] at e; cases e
  have sub : ∀ b, b ∈ L :: led.map (·.1) → b ∈ L :: ((I, P) :: led).map (·.1) := fun b hb => by
    rcases List.mem_cons.mp hb with e | hb
    · exact e ▸ .head _
    · exact .tail _ (.tail _ hb)
  refine ⟨hn, kk, fun b o x e => k b o (out b o x e).1 (out b o x e).2 (s.kp b o x e), fun b o e => k b o (fun q => ?_) (fun q => ?_) (s.bs b o e), fun b hb => s.nb b (sub b hb), fun b hb => s.nh b (sub b hb), fun p hp => ?_, List.nodup_cons.mpr ⟨nd.1.2, nd.2.2⟩, fun p hp => ?_⟩
  · rw [s.nb b (by rw [q]; exact .tail _ (.head _))] at e; cases e
  · rw [s.nb b (by rw [q]; exact .head _)] at e; cases e
  · obtain ⟨o, ho, q⟩ := s.ld p (.tail _ hp)
    have hm : p.1 ∈ led.map (·.1) := List.mem_map_of_mem hp
    exact ⟨o, k _ _ (fun e => nd.2.1 (e ▸ hm)) (fun e => nd.1.2 (e ▸ hm)) ho, q⟩
  · obtain ⟨as, r⟩ := s.im p hp
    exact ⟨as, reads_sub (fun b o n e => k b o (fun q => n (by rw [q]; exact .tail _ (.head _))) (fun q => n (by rw [q]; exact .head _)) e) (fun b hb => .inl (sub b hb)) r⟩
theorem St.drop {H₀ H h h' : Heap} {X : List Addr} {L I : Addr} {P : OP} {m : List (Str × Option Value)} {led : List (Addr × OP)} {ims : List (Value × PyData)} (s : St H₀ H X L m ((I, P) :: led) ims h) (k : ∀ b o, b ≠ I → h.get? b = some o → h'.get? b = some o) :
    St H₀ H X L m led ims h' := by
  refine s.dropL ?_ s.kk fun b o n _ e => k b o n e
  obtain ⟨o, es, ep, ho, r⟩ := s.ns
  exact ⟨o, es, ep, k _ _ (fun q => (List.nodup_cons.mp s.nd).1 (by rw [q]; exact .head _)) ho, r⟩

theorem nexts_list {c : Cf} {A : Around} (ok : A.handled = none) (ax : Addr) (ds : List PyData) : Nexts c A (LI ax) ds (fun _ ims => (.ref ax, .list ds) ∈ ims) := by
  have src : ∀ {H₀ H h : Heap} {X : List Addr} {L I : Addr} {m : List (Str × Option Value)} {led : List (Addr × OP)} {ims : List (Value × PyData)} {i : Nat}, St H₀ H X L m ((I, LI ax i) :: led) ims h → (Value.ref ax, PyData.list ds) ∈ ims →
      h.IsListIter I ax i ∧ ∃ o vs n bs, (hideAll h (L :: ((I, LI ax i) :: led).map (·.1))).get? ax = some o ∧ o.cls = .type "list" ∧ o.data = .seq vs n ∧ ReadsAll (hideAll h (L :: ((I, LI ax i) :: led).map (·.1))) vs.toList ds bs := fun s req => by
    obtain ⟨as, r⟩ := s.im _ req
    exact ⟨s.ld _ (.head _), reads_list r⟩
  refine ⟨fun i d hd req q h s => ?_, fun req q h s => ?_, fun i req q h s => ?_⟩
  · obtain ⟨it, o, vs, n, bs, h1, h2, h3, rs⟩ := src s req
    obtain ⟨v, cs, hv, r⟩ := readsAll_at i rs hd
    have hl : h.IsList ax vs := ⟨o, of_hideAll _ h1, h2, n, h3⟩
    refine ⟨fun tk g hg => wpAny_pyNext_list_item it hl (by rw [← Array.getElem?_toList]; exact hv) fun h' it' hs => Post.mk' hg (q v h' ?_)⟩
    exact (s.addIm r).upd .head (fun b o n e => hs.extBut b o (fun q => n (q ▸ .head _)) e) it'
  · obtain ⟨it, o, vs, n, bs, h1, h2, h3, rs⟩ := src s req
    have hl : h.IsList ax vs := ⟨o, of_hideAll _ h1, h2, n, h3⟩
    refine ⟨fun tk g hg => wpAny_pyNext_list_end ok it hl ?_ fun h' he => Post.mk' hg (q h' (s.drop fun b o n e => he b o n e))⟩
    have := readsAll_len rs
    rw [Array.getElem?_eq_none_iff, ← Array.length_toList, this]; exact Nat.le_refl _
  · exact ⟨fun tk g hg => wpAny_pyIter_listiter (src s req).1 (Post.mk' hg (q h s))⟩
theorem nexts_range {c : Cf} {A : Around} (ok : A.handled = none) (a st : Int) (n : Nat) : Nexts c A (RI a st n) ((List.range n).map fun i => .int (a + (i : Nat) * st)) (fun _ _ => True) := by
  refine ⟨fun i d hd req q h s => ?_, fun req q h s => ?_, fun i req q h s => ?_⟩
  · obtain ⟨o, h1, rfl⟩ := s.ld _ (.head _)
    have hi : i < n := by
      rw [List.getElem?_map] at hd
      cases e : (List.range n)[i]? with
      | none => rw [e] at hd; cases hd
      | some j => have := (List.getElem?_eq_some_iff.mp e).1; simpa using this
    have hd' : d = .int (a + (i : Nat) * st) := by simpa [hi] using hd.symm
    refine ⟨fun tk g hg => wpAny_pyNext_range_item h1 (by omega) fun h' it' hs => Post.mk' hg (q _ h' ?_)⟩
    have s' : St _ _ _ _ _ _ ((.int (a + (i : Nat) * st) (Sh c h g tk).toks, d) :: _) h := s.addIm (as := []) (by rw [hd']; exact .int _ _)
    refine s'.upd .head (fun b o n e => hs.extBut b o (fun q => n (q ▸ .head _)) e) ⟨_, it', ?_⟩
    have e1 : a + ((i + 1 : Nat) : Int) * st = a + (i : Int) * st + st := by push_cast; rw [Int.add_mul, Int.one_mul, Int.add_assoc]
    have e2 : (n : Int) - ((i + 1 : Nat) : Int) = (n : Int) - (i : Int) - 1 := by push_cast; omega
    show _ = Obj.mk _ _ (.fields #[rawInt _, rawInt _, rawInt _]) _
    rw [e1, e2]
  · obtain ⟨o, h1, rfl⟩ := s.ld _ (.head _)
    rw [List.length_map, List.length_range] at h1
    exact ⟨fun tk g hg => wpAny_pyNext_range_end ok h1 (by omega) fun h' he => Post.mk' hg (q h' (s.drop fun b o n e => he b o n e))⟩
  · obtain ⟨o, h1, rfl⟩ := s.ld _ (.head _)
    exact ⟨fun tk g hg => wpAny_pyIter_rangeiter h1 (Post.mk' hg (q h s))⟩

/-! ### for -/
def someQ (K : Value → Heap → Prop) : Option Value → Heap → Prop
  | some v => K v
  | none => fun _ => False
def doneQ (T : Heap → Prop) : Option Value → Heap → Prop
  | some _ => fun _ => False
  | none => T
def itQ (J : Addr → Heap → Prop) : Value → Heap → Prop := fun v h => ∃ I, v = .ref I ∧ J I h
section
variable {c : Cf} {A : Around} {e : Env} {S : Heap → Prop} {pos : Pos}
theorem W_For {target iter : Expr} {body : List Stmt} {Q : Flow → Heap → Prop} (n : Nat) (J : Addr → Nat → Heap → Prop) (init : Ent S (W c A (eval iter e) (fun xv => W c A (pyIter xv) (itQ fun I => J I 0))))
    (turn : ∀ I i, i < n → Ent (J I i) (W c A (pyNext (.ref I)) (someQ fun v => W c A (assign target e v) (fun _ => W c A (execs body e) (loopQ Q (J I (i + 1)))))))
    (fin : ∀ I, Ent (J I n) (W c A (pyNext (.ref I)) (doneQ (Q .next)))) (ht : ∀ it v, letOwnedTupleGo target it v = pure () := by intros; kernel_rfl) (hs : ∀ x, foldedSetIterable iter e x = pure x := by intros; kernel_rfl) :
    Ent S (W c A (exec (.For target iter body [] pos) e) Q) := by
  refine fun h s => ⟨fun tk g hg => wpAny_For ((init h s).up hg fun xv h₁ g₁ tk₁ hg₁ x => x.up hg₁ fun it h₂ g₂ tk₂ hg₂ y => ?_) hs⟩
  obtain ⟨I, rfl, j⟩ := y
  refine codeAny_forLoop (fun k s => ∃ i h tk g, k + i = n ∧ s = Sh c h g tk ∧ AllBare g ∧ J I i h) ?_ n ⟨0, h₂, tk₂, g₂, rfl, rfl, hg₂, j⟩ (ht _)
  rintro k s ⟨i, h, tk, g, hk, rfl, hg, j⟩
  by_cases hi : i < n
  · refine W.up (turn I i hi h j) hg fun r h' g' tk' hg' x => ?_
    cases r with
    | none => exact x.elim
    | some v =>
      refine W.up x hg' fun _ h₂ g₂ tk₂ hg₂ y => y.up hg₂ fun f h₃ g₃ tk₃ hg₃ z => ?_
      cases f with
      | next => exact ⟨k - 1, by omega, i + 1, _, _, _, by omega, rfl, hg₃, z⟩
      | cont => exact ⟨k - 1, by omega, i + 1, _, _, _, by omega, rfl, hg₃, z⟩
      | brk => exact Post.mk' hg₃ z
      | ret v => exact Post.mk' hg₃ z
  · obtain rfl : i = n := by omega
    refine W.up (fin I h j) hg fun r h' g' tk' hg' x => ?_
    cases r with
    | none => exact wpAny_execs_nil (Post.mk' hg' x)
    | some v => exact x.elim
end
end
section
open PySem PySem.W PyProof.Rows PySem.Calls

/-! ## comprehensions -/
abbrev testsT (ifs : List Expr) (env : Env) : Sem Bool := forIn ifs true fun c r => if r = true then do let ok ← isTrue c env (eval c env); pure (ForInStep.yield ok) else pure (ForInStep.yield r)
theorem zip_snoc {α β : Type} : ∀ {xs : List α} {ys : List β} {x : α} {y : β}, xs.length = ys.length → (xs ++ [x]).zip (ys ++ [y]) = xs.zip ys ++ [(x, y)]
  | [], [], _, _, _ => rfl
  | a :: xs, b :: ys, _, _, h => congrArg (List.cons (a, b)) (zip_snoc (Nat.succ.inj h))
section
variable {c : Cf} {A : Around} {H₀ H₂ : Heap} {X₂ : List Addr} {C D I : Addr} {cenv : Env} {P : Nat → OP} {ds : List PyData} {imsI : List (Value × PyData)} {rq : List (Addr × OP) → List (Value × PyData) → Prop} {F : List (Addr × OP)}
/-- what a comprehension's parts do, turn by turn -/
structure Parts (c : Cf) (A : Around) (H₀ H₂ : Heap) (X₂ : List Addr) (C : Addr) (cenv : Env) (F : List (Addr × OP)) (ds : List PyData) (imsI : List (Value × PyData)) (mO : Option Value → List (Str × Option Value)) (cO : Option Value → List (Addr × OP))
    (p : PyData → Bool) (g : PyData → PyData) (target elt : Expr) (ifs : List Expr) : Prop where
  asg : ∀ (u : Option Value) (v : Value) (x : Addr × OP) (r : List (Addr × OP)) (ims : List (Value × PyData)) (R : Unit → Heap → Prop), Ent (St H₀ H₂ X₂ C (mO (some v)) (x :: (cO (some v) ++ r)) ims) (R ()) →
    Ent (St H₀ H₂ X₂ C (mO u) (x :: (cO u ++ r)) ims) (W c A (assign target cenv v) R)
  tst : ∀ (v : Value) (d : PyData) (led : List (Addr × OP)) (ims : List (Value × PyData)) (R : Bool → Heap → Prop), d ∈ ds → (∀ q ∈ F, q ∈ led) → (∀ q ∈ cO (some v), q ∈ led) → (v, d) ∈ ims → (∀ q ∈ imsI, q ∈ ims) →
    Ent (St H₀ H₂ X₂ C (mO (some v)) led ims) (R (p d)) → Ent (St H₀ H₂ X₂ C (mO (some v)) led ims) (W c A (testsT ifs cenv) R)
  elt : ∀ (v : Value) (d : PyData) (led : List (Addr × OP)) (ims : List (Value × PyData)) (R : Value → Heap → Prop), d ∈ ds → p d = true → (∀ q ∈ F, q ∈ led) → (∀ q ∈ cO (some v), q ∈ led) → (v, d) ∈ ims → (∀ q ∈ imsI, q ∈ ims) →
    (∀ y, Ent (St H₀ H₂ X₂ C (mO (some v)) led ((y, g d) :: ims)) (R y)) → Ent (St H₀ H₂ X₂ C (mO (some v)) led ims) (W c A (eval elt cenv) R)

theorem comp_loop {mO : Option Value → List (Str × Option Value)} {cO : Option Value → List (Addr × OP)} {p : PyData → Bool} {g : PyData → PyData} {target elt iter : Expr} {ifs : List Expr} {scope : Scope} {pos : Pos} {R : Result → Shared → Prop}
    (N : Nexts c A P ds rq) (hreq : ∀ led ims, (∀ q ∈ F, q ∈ led) → (∀ q ∈ imsI, q ∈ ims) → rq led ims) (T : Parts c A H₀ H₂ X₂ C cenv F ds imsI mO cO p g target elt ifs) (hz : ds.length ≤ 1000)
    (fin : ∀ u ys h tk gs, ys.length = ((ds.filter p).map g).length → St H₀ H₂ X₂ C (mO u) (cO u ++ ((D, LsP ys) :: F)) (ys.zip ((ds.filter p).map g) ++ imsI) h → AllBare gs → R (.ok .next) (Sh c h gs tk))
    (ht : ∀ v, letOwnedTupleGo target (.ref I) v = pure ()) :
    ∀ u h tk gs, St H₀ H₂ X₂ C (mO u) ((I, P 0) :: (cO u ++ ((D, LsP []) :: F))) imsI h → AllBare gs → codeAny (Mo c) A (.compStart (.ListComp elt [⟨target, iter, ifs, 0⟩] scope pos) 0 (.ref I) (.ref D) cenv) R (Sh c h gs tk) := by
  have loop : ∀ u h tk gs, St H₀ H₂ X₂ C (mO u) ((I, P 0) :: (cO u ++ ((D, LsP []) :: F))) imsI h → AllBare gs → codeAny (Mo c) A (.compLoop (.ListComp elt [⟨target, iter, ifs, 0⟩] scope pos) 0 (.ref I) (.ref D) cenv) R (Sh c h gs tk) := by
    intro u h tk gs s hg
    refine codeAny_compLoop_tests (fun k sh => ∃ i u ys h tk gs, k + i = ds.length ∧ ys.length = (((ds.take i).filter p).map g).length ∧ sh = Sh c h gs tk ∧ AllBare gs ∧
      St H₀ H₂ X₂ C (mO u) ((I, P i) :: (cO u ++ ((D, LsP ys) :: F))) (ys.zip (((ds.take i).filter p).map g) ++ imsI) h) ?_ ds.length ⟨0, u, [], h, tk, gs, rfl, rfl, rfl, hg, s⟩ ht
    rintro k sh ⟨i, u, ys, h, tk, gs, hk, hl, rfl, hg, s⟩
    by_cases hi : i < ds.length
    · have hd : ds[i]? = some ds[i] := List.getElem?_eq_getElem hi
      have hm : ds[i] ∈ ds := List.getElem_mem hi
      refine W.up ((N.item (Q := someQ fun v => W c A (assign target cenv v) fun _ => W c A (testsT ifs cenv) fun b h => if b = true then W c A (eval elt cenv) (fun y => W c A (call (.builtin "list.append") [.ref D, y]) fun _ h =>
          ∃ ys u, ys.length = (((ds.take (i + 1)).filter p).map g).length ∧ St H₀ H₂ X₂ C (mO u) ((I, P (i + 1)) :: (cO u ++ ((D, LsP ys) :: F))) (ys.zip (((ds.take (i + 1)).filter p).map g) ++ imsI) h) h
          else ∃ ys u, ys.length = (((ds.take (i + 1)).filter p).map g).length ∧ St H₀ H₂ X₂ C (mO u) ((I, P (i + 1)) :: (cO u ++ ((D, LsP ys) :: F))) (ys.zip (((ds.take (i + 1)).filter p).map g) ++ imsI) h)
        i ds[i] hd (hreq _ _ (fun q hq => List.mem_append_right _ (.tail _ hq)) (fun q hq => List.mem_append_right _ hq)) fun v => T.asg u v _ _ _ _ (T.tst v ds[i] _ _ _ hm (fun q hq => .tail _ (List.mem_append_right _ (.tail _ hq))) (fun q hq => .tail _ (List.mem_append_left _ hq)) (.head _) (fun q hq => .tail _ (List.mem_append_right _ hq)) fun h s => ?_)) h s) hg fun r h' g' tk' hg' x => ?_
      · have tk1 := take_succ_filter p ds i ds[i] hd
        by_cases hp : p ds[i] = true
        · rw [if_pos hp]
          refine T.elt v ds[i] _ _ _ hm hp (fun q hq => .tail _ (List.mem_append_right _ (.tail _ hq))) (fun q hq => .tail _ (List.mem_append_left _ hq)) (.head _) (fun q hq => .tail _ (List.mem_append_right _ hq)) (fun y h s => ?_) h s
          have hys : ys.length ≤ 1000 := by
            have := List.length_filter_le p (ds.take i)
            rw [hl, List.length_map]; simp at this ⊢; omega
          refine l_append (led' := (I, P (i + 1)) :: (cO (some v) ++ ((D, LsP (ys ++ [y])) :: F))) ?_ hys (fun h s => ?_) h s
          · refine .tail ?_
            generalize cO (some v) = l
            induction l with
            | nil => exact .head
            | cons q l ih => exact .tail ih
          · refine ⟨ys ++ [y], some v, ?_, ?_⟩
            · rw [tk1, if_pos hp, List.map_append, List.length_append, List.length_append, hl]; rfl
            · rw [tk1, if_pos hp, List.map_append]
              show St H₀ H₂ X₂ C _ _ ((ys ++ [y]).zip (_ ++ [g ds[i]]) ++ imsI) h
              rw [zip_snoc hl]
              refine s.less fun q hq => ?_
              rcases List.mem_append.mp hq with hq | hq
              · rcases List.mem_append.mp hq with hq | hq
                · exact .tail _ (.tail _ (List.mem_append_left _ hq))
                · rw [List.mem_singleton.mp hq]; exact .head _
              · exact .tail _ (.tail _ (List.mem_append_right _ hq))
        · rw [if_neg hp]
          rw [if_neg hp, List.append_nil] at tk1
          exact ⟨ys, some v, by rw [tk1]; exact hl, by rw [tk1]; exact s.less fun q hq => .tail _ hq⟩
      · cases r with
        | none => exact x.elim
        | some v =>
          refine W.up x hg' fun _ h₂ g₂ tk₂ hg₂ y => y.up hg₂ fun b h₃ g₃ tk₃ hg₃ z => ?_
          cases b with
          | true =>
            refine W.up z hg₃ fun y h₄ g₄ tk₄ hg₄ z => z.up hg₄ fun _ h₅ g₅ tk₅ hg₅ z => ?_
            obtain ⟨ys, u, e1, s⟩ := z
            exact ⟨k - 1, by omega, i + 1, u, ys, _, _, _, by omega, e1, rfl, hg₅, s⟩
          | false =>
            obtain ⟨ys, u, e1, s⟩ := z
            exact ⟨k - 1, by omega, i + 1, u, ys, _, _, _, by omega, e1, rfl, hg₃, s⟩
    · obtain rfl : i = ds.length := by omega
      rw [List.take_length] at hl s
      refine W.up (N.fin (Q := doneQ fun h => St H₀ H₂ X₂ C (mO u) (cO u ++ ((D, LsP ys) :: F)) (ys.zip ((ds.filter p).map g) ++ imsI) h) (hreq _ _ (fun q hq => List.mem_append_right _ (.tail _ hq)) (fun q hq => List.mem_append_right _ hq)) (fun h s => s) h s) hg fun r h' g' tk' hg' x => ?_
      cases r with
      | none => exact fin u ys h' tk' g' hl x hg'
      | some v => exact x.elim
  intro u h tk gs s hg
  exact codeAny_compStart_list (loop u h tk gs s hg) (W.up (N.self (Q := fun v h => v = .ref I ∧ St H₀ H₂ X₂ C (mO u) ((I, P 0) :: (cO u ++ ((D, LsP []) :: F))) imsI h) 0 (hreq _ _ (fun q hq => List.mem_append_right _ (.tail _ hq)) (fun q hq => hq)) (fun h s => ⟨rfl, s⟩) h s) hg fun v h' g' tk' hg' x => by
    obtain ⟨rfl, s⟩ := x
    exact loop u h' tk' g' s hg')
end
end
section
open PySem PySem.W PyProof.Rows PySem.Calls

/-! ## a comprehension within a frame -/
def clos (cells : List (Str × Addr)) : List (Str × NameKind) → List (Str × Addr) → Option (List (Str × Addr))
  | [], acc => some acc
  | (n, k) :: r, acc => if k == .free then (match cells.lookup n with | some a => clos cells r ((n, a) :: acc) | none => none) else clos cells r acc
theorem closureFor_of {scope : Scope} {e : Env} {cl : List (Str × Addr)} (h : clos e.cells scope.names [] = some cl) : closureFor scope e = pure cl := by
  have key : ∀ (names : List (Str × NameKind)) (acc cl : List (Str × Addr)), clos e.cells names acc = some cl →
      (forIn names acc (fun x cs => match x with | (name, kind) => if (kind == NameKind.free) = true then (do let a ← cellOf e name; pure (ForInStep.yield ((name, a) :: cs))) else pure (ForInStep.yield cs)) : Sem (List (Str × Addr))) = pure cl := by
    intro names
    induction names with
    | nil => intro acc cl h; cases h; rfl
    | cons x r ih =>
      obtain ⟨n, k⟩ := x
      intro acc cl h
      unfold clos at h
      rw [List.forIn_cons]
      by_cases hk : (k == NameKind.free) = true
      · rw [if_pos hk] at h
        simp only [hk, if_true]
        cases hl : e.cells.lookup n with
        | none => rw [hl] at h; cases h
        | some a =>
          rw [hl] at h
          have : cellOf e n = pure a := by unfold cellOf; rw [hl]
          rw [this]
          exact ih _ _ h
      · rw [if_neg hk] at h
        simp only [hk]
        exact ih _ _ h
  unfold closureFor
  have := key scope.names [] cl h
  simp only [bind_pure]
  exact this
def relN (names nm : List (Str × NameKind)) : List (Str × NameKind) := names.map fun (n, k) => if (k == .free && nm.lookup n == some .cell) = true then (n, .cell) else (n, k)
theorem relabel_names {scope : Scope} {e : Env} {L : Addr} {cl : List (Str × Addr)} {nm : List (Str × NameKind)} (E : Ev e L cl nm) : (relabel scope e).names = relN scope.names nm := by
  unfold relabel relN
  simp only [E.kind, beq_self_eq_true, Bool.and_true]
  congr 1
  funext x
  unfold Env.kindOf
  rw [E.nms]

abbrev frz (h : Heap) (L : Addr) (led : List (Addr × OP)) : List (Addr × OP) := (L, fun o => h.get? L = some o) :: led.map fun p => (p.1, fun o => h.get? p.1 = some o ∧ p.2 o)
theorem frz_keys {h : Heap} {L : Addr} {led : List (Addr × OP)} : (frz h L led).map (·.1) = L :: led.map (·.1) := by
  show L :: (led.map _).map _ = _
  rw [List.map_map]; rfl
section
variable {H₀ H h h' : Heap} {X : List Addr} {L a : Addr} {m : List (Str × Option Value)} {led led' : List (Addr × OP)} {ims ims' : List (Value × PyData)}
theorem St.perm (s : St H₀ H X L m led ims h) (k : led.Perm led') : St H₀ H X L m led' ims h := by
  have km := k.map (·.1)
  have sub : ∀ b, b ∈ L :: led'.map (·.1) ↔ b ∈ L :: led.map (·.1) := fun b => by simp only [List.mem_cons, km.mem_iff]
  exact ⟨s.ns, s.kk, s.kp, s.bs, fun b hb => s.nb b ((sub b).mp hb), fun b hb => s.nh b ((sub b).mp hb), fun p hp => s.ld p (k.mem_iff.mpr hp), (List.Perm.cons L km).nodup_iff.mp s.nd,
    fun p hp => let ⟨as, r⟩ := s.im p hp; ⟨as, reads_sub (fun _ _ _ e => e) (fun b hb => .inl ((sub b).mp hb)) r⟩⟩
/-- the frozen part holds at the later heap: it was kept -/
theorem frz_kept {I : Addr} (s : St H₀ H X L m led ims h) {C : Addr} {m2 : List (Str × Option Value)} {led2 : List (Addr × OP)} {ims2 : List (Value × PyData)}
    (t : St H₀ h (I :: L :: led.map (·.1)) C m2 (led2 ++ frz h L led) ims2 h') : ∀ b o, b ≠ I → h.get? b = some o → h'.get? b = some o := fun b o n e => by
  by_cases x : b ∈ L :: led.map (·.1)
  · rcases List.mem_cons.mp x with q | q
    · subst q
      obtain ⟨o', h1, h2⟩ := t.ld _ (List.mem_append_right _ (.head _))
      rw [h2] at e; cases e; exact h1
    · obtain ⟨p, hp, rfl⟩ := List.mem_map.mp q
      obtain ⟨o', h1, h2, _⟩ := t.ld _ (List.mem_append_right _ (.tail _ (List.mem_map_of_mem hp)))
      rw [h2] at e; cases e; exact h1
  · exact t.kp b o (fun q => (List.mem_cons.mp q).elim n x) e

end

theorem cellsFrom_app : ∀ (names : List (Str × NameKind)) (n : Nat) (acc : List (Str × Addr)), cellsFrom n names acc = cellsFrom n names [] ++ acc
  | [], _, _ => rfl
  | (x, k) :: r, n, acc => by
    unfold cellsFrom
    split
    · rw [cellsFrom_app r (n + 1) ((x, n) :: acc), cellsFrom_app r (n + 1) [(x, n)], List.append_assoc]; rfl
    · exact cellsFrom_app r n acc
theorem newEnvC {M : Model} {A : Around} {Er : Value → Shared → Prop} {s : Shared} {scope : Scope} {globals : Addr} {ccl : List (Str × Addr)} {qual : Str} {outer : Env} {Q : Env → Shared → Prop}
    (h : Q (newEnv scope s.heap.objs.size globals (cellsFrom (s.heap.objs.size + 1) scope.names ccl) qual none .none (some outer) builtinsNs) { s with heap := pushCells (s.heap.push { cls := .type "dict", data := .dict #[] }) scope.names }) :
    wpAny M A (newFunctionEnv scope globals ccl [] qual none .none (some outer)) Q Er s := by
  simp only [newFunctionEnv, Option.isSome_some, if_true]
  refine wpAny_bind (wpAny_alloc ?_)
  refine wpAny_bind (wpAny_layCells _ (fun name kind cells => by cases hkc : kind == NameKind.cell <;> simp [hkc]) _ _ _ _ ?_)
  rw [show ({ s with heap := s.heap.push { cls := .type "dict", data := .dict #[] } } : Shared).heap.objs.size = s.heap.objs.size + 1 from Heap.size_push ..]
  refine wpAny_bind ?_
  rw [List.forIn_nil]
  exact wpAny_pure (wpAny_pure h)

/-- the scope of a comprehension is one of a function's kind; each local name is told once -/
def compOk (scope : Scope) : Bool := scope.kind == .function && scope.names.all fun y => y.2 != .local || scope.names.lookup y.1 == some .local
section
variable {c : Cf} {A : Around} {H₀ H : Heap} {X : List Addr} {L : Addr} {m : List (Str × Option Value)} {led : List (Addr × OP)} {ims : List (Value × PyData)} {e : Env} {cl ccl : List (Str × Addr)} {nm : List (Str × NameKind)}
  {P : Nat → OP} {ds : List PyData} {rq : List (Addr × OP) → List (Value × PyData) → Prop} {mO : Option Value → List (Str × Option Value)} {p : PyData → Bool} {g : PyData → PyData} {target elt iter : Expr} {ifs : List Expr} {scope : Scope} {pos : Pos}

/-- what the turns of a comprehension do, in whatever frame it is given -/
def Turns (c : Cf) (A : Around) (H₀ : Heap) (L : Addr) (led : List (Addr × OP)) (ims : List (Value × PyData)) (ccl : List (Str × Addr)) (names : List (Str × NameKind)) (own : List Str) (ds : List PyData)
    (mO : Option Value → List (Str × Option Value)) (p : PyData → Bool) (g : PyData → PyData) (target elt : Expr) (ifs : List Expr) : Prop :=
  ∀ h₂ I C cenv (oc : List (Str × Addr)), oc.map (·.1) = own → Ev cenv C (oc ++ ccl) names →
    Parts c A H₀ h₂ (I :: L :: led.map (·.1)) C cenv (frz h₂ L led) ds ims mO (fun u => oc.map fun q => (q.2, CellP u)) p g target elt ifs

theorem comp_enter {h₂ : Heap} {I : Addr} {tk : Tok} {gs : Array GenState} (own : List Str) (E : Ev e L cl nm) (sc : compOk scope = true) (hown : ∀ n, (cellsFrom n scope.names []).map (·.1) = own)
    (hm0 : ∀ z, lk (mO none) z = none) (hmk : ((mO none).map (·.1)).Nodup) (N : Nexts c A P ds rq) (hz : ds.length ≤ 1000)
    (hreq : ∀ h₂ led' ims', (∀ q ∈ frz h₂ L led, q ∈ led') → (∀ q ∈ ims, q ∈ ims') → rq led' ims')
    (T : Turns c A H₀ L led ims ccl (relN scope.names nm) own ds mO p g target elt ifs) (ht : ∀ it v, letOwnedTupleGo target it v = pure ()) {RR : Value → Addr → Result → Shared → Prop}
    (fin : ∀ D C m' ys h tk gs, ys.length = ((ds.filter p).map g).length → AllBare gs → h₂.get? C = none → h₂.get? D = none → h.Ns C m' → D ≠ C → Ls h D ys → (∀ b o, b ≠ I → h₂.get? b = some o → h.get? b = some o) →
      (∀ q ∈ ys.zip ((ds.filter p).map g), ∃ as, Reads (hideAll h (C :: D :: L :: led.map (·.1))) q.1 q.2 as) → RR (.ref D) C (.ok .next) (Sh c h gs tk))
    (s : St H₀ H X L m ((I, P 0) :: led) ims h₂) (hg : AllBare gs) :
    wpAny (Mo c) A (newList []) (fun acc s₃ => wpAny (Mo c) A (newFunctionEnv scope e.globals ccl [] e.qual none .none (some e)) (fun cenv s₄ =>
      codeAny (Mo c) A (.compStart (.ListComp elt [⟨target, iter, ifs, 0⟩] scope pos) 0 (.ref I) acc { cenv with scope := relabel scope e }) (RR acc cenv.locals) s₄) NoE s₃) NoE (Sh c h₂ gs tk) := by
  refine wpAny_newObj_type (newEnvC ?_)
  have hD : (Sh c h₂ gs tk).heap.objs.size = h₂.objs.size := rfl
  generalize hH3 : ((Sh c h₂ gs tk).heap.push { cls := .type "list", dict := none, data := .seq ([] : List Value).toArray } : Heap) = h₃
  have sz3 : h₃.objs.size = h₂.objs.size + 1 := by rw [← hH3, Heap.size_push]
  show codeAny (Mo c) A (.compStart _ 0 (.ref I) (.ref h₂.objs.size) _) _ (Sh c (pushCells (h₃.push { cls := .type "dict", data := .dict #[] }) scope.names) gs tk)
  have ok := cellsFrom_ok scope.names (h₃.push { cls := .type "dict", data := .dict #[] }) (h₃.objs.size + 1) [] ⟨fun _ _ hm => (nomatch hm), List.Pairwise.nil⟩ (by rw [Heap.size_push]; exact Nat.le_refl _)
  rw [Heap.size_push] at ok
  have hw := hown (h₃.objs.size + 1)
  rw [cellsFrom_app]
  generalize cellsFrom (h₃.objs.size + 1) scope.names [] = oc at ok hw
  generalize hH4 : pushCells (h₃.push { cls := .type "dict", data := .dict #[] }) scope.names = h₄ at ok
  have keep : ∀ b o, h₂.get? b = some o → h₄.get? b = some o := fun b o e => by
    rw [← hH4]; exact pushCells_keeps _ _ _ _ (Heap.get?_push_of_some _ (by rw [← hH3]; exact Heap.get?_push_of_some _ e))
  have hns : h₄.Ns h₃.objs.size (lk (mO none)) := by
    rw [← hH4, show lk (mO none) = fun _ => none from funext hm0]
    exact (Heap.Ns.new h₃ (.type "dict")).keeps (pushCells_keeps _ _)
  have hDl : h₄.get? h₂.objs.size = some (W.listOf ([] : List Value).toArray 0) := by
    rw [← hH4]; exact pushCells_keeps _ _ _ _ (Heap.get?_push_of_some _ (by rw [← hH3]; exact Heap.get?_push_size _ rfl))
  have nd := s.nd
  simp only [List.map_cons] at nd
  have nd2 : (I :: L :: led.map (·.1)).Nodup := (List.Perm.swap I L (led.map (·.1))).nodup nd
  have keys : (((I, P 0) :: frz h₂ L led).map (·.1)) = I :: L :: led.map (·.1) := congrArg (List.cons I) frz_keys
  have s4 : St H₀ h₂ (I :: L :: led.map (·.1)) h₃.objs.size (mO none) ((oc.map fun q => (q.2, CellP none)) ++ [(h₂.objs.size, LsP [])] ++ ((I, P 0) :: frz h₂ L led)) ims h₄ := by
    rw [← keys]
    refine St.enter _ s.bs (fun b o _ e => keep b o e) hns hmk (fresh_none _ (by omega)) (fun q hq => ?_) ?_ (fun q hq => ?_) (fun b hb => ?_) (by rw [keys]; exact nd2) (fun q hq => ?_)
    · rcases List.mem_append.mp hq with hq | hq
      · obtain ⟨r, hr, rfl⟩ := List.mem_map.mp hq
        have := ok.empty r.1 r.2 hr
        exact ⟨this.1, fresh_none _ (by have := this.2; show h₂.objs.size ≤ r.2; omega), Nat.ne_of_gt this.2⟩
      · rw [List.mem_singleton.mp hq]
        exact ⟨⟨_, hDl, 0, rfl⟩, fresh_none _ (Nat.le_refl _), by show h₂.objs.size ≠ h₃.objs.size; omega⟩
    · rw [List.map_append, List.map_map]
      refine List.nodup_append.mpr ⟨List.pairwise_map.mpr ok.apart, by simp, fun x hx y hy q => ?_⟩
      obtain ⟨r, hr, rfl⟩ := List.mem_map.mp hx
      have h1 : y = h₂.objs.size := List.mem_singleton.mp hy
      have := (ok.empty r.1 r.2 hr).2
      exact absurd (Eq.trans q h1) (Nat.ne_of_gt (by omega : h₂.objs.size < r.2))
    · rcases List.mem_cons.mp hq with rfl | hq
      · obtain ⟨o, h1, h2⟩ := s.ld _ (.head _)
        exact ⟨⟨o, h1⟩, o, keep _ _ h1, h2⟩
      · rcases List.mem_cons.mp hq with rfl | hq
        · obtain ⟨o, _, _, h1, _⟩ := s.ns
          exact ⟨⟨o, h1⟩, o, keep _ _ h1, h1⟩
        · obtain ⟨r, hr, rfl⟩ := List.mem_map.mp hq
          obtain ⟨o, h1, h2⟩ := s.ld r (.tail _ hr)
          exact ⟨⟨o, h1⟩, o, keep _ _ h1, h1, h2⟩
    · rw [keys] at hb
      refine s.nb b ?_
      simp only [List.map_cons, List.mem_cons] at hb ⊢
      rcases hb with h | h | h
      · exact .inr (.inl h)
      · exact .inl h
      · exact .inr (.inr h)
    · obtain ⟨as, r⟩ := s.im q hq
      refine ⟨as, reads_sub (fun _ _ _ e => e) (fun b hb => .inl ?_) r⟩
      rw [keys] at hb
      simp only [List.map_cons, List.mem_cons] at hb ⊢
      rcases hb with h | h | h
      · exact .inr (.inl h)
      · exact .inl h
      · exact .inr (.inr h)
  have s5 : St H₀ h₂ (I :: L :: led.map (·.1)) h₃.objs.size (mO none) ((I, P 0) :: ((oc.map fun q => (q.2, CellP none)) ++ ((h₂.objs.size, LsP []) :: frz h₂ L led))) ims h₄ := by
    refine s4.perm (List.perm_middle.trans ?_)
    rw [List.append_assoc]
    exact List.Perm.refl _
  have Ec : Ev { newEnv scope h₃.objs.size e.globals (oc ++ ccl) e.qual none .none (some e) builtinsNs with scope := relabel scope e } h₃.objs.size (oc ++ ccl) (relN scope.names nm) :=
    ⟨rfl, E.glb, E.bui, rfl, beq_iff_eq.mp (Bool.and_eq_true_iff.mp sc).1, relabel_names E⟩
  refine comp_loop (C := h₃.objs.size) N (hreq h₂) (T h₂ I h₃.objs.size _ oc hw Ec) hz (fun u ys h tk gs hl sf hg => ?_) (ht _) none h₄ tk gs s5 hg
  · have sf' : St H₀ h₂ (I :: L :: led.map (·.1)) h₃.objs.size (mO u) ((oc.map (fun q => (q.2, CellP u)) ++ [(h₂.objs.size, LsP ys)]) ++ frz h₂ L led) (ys.zip ((ds.filter p).map g) ++ ims) h := by
      rw [List.append_assoc]; exact sf
    have hC : h₂.get? h₃.objs.size = none := fresh_none _ (by omega)
    refine fin _ _ _ ys h tk gs hl hg hC (fresh_none _ (Nat.le_refl _)) sf.ns (fun q => ?_) (sf.ld _ (List.mem_append_right _ (.head _))) (frz_kept (s.drop fun b o _ e => e) sf') (fun q hq => ?_)
    · have : h₂.objs.size = h₃.objs.size := q
      omega
    · obtain ⟨as, r⟩ := sf.im q (List.mem_append_left _ hq)
      refine ⟨as, reads_sub (fun _ _ _ e => e) (fun b hb => .inl ?_) r⟩
      rcases List.mem_cons.mp hb with e | hb
      · exact e ▸ .head _
      · refine .tail _ ?_
        rw [List.map_append]
        refine List.mem_append_right _ ?_
        rcases List.mem_cons.mp hb with e | hb
        · exact e ▸ .head _
        · refine .tail _ ?_
          rw [show ((frz h₂ L led).map fun x => x.1) = L :: led.map (·.1) from frz_keys]; exact hb

/-- the outer frame, back again: the new list read -/
theorem comp_back {h₂ h h' : Heap} {I C D : Addr} {m₁ : List (Str × Option Value)} {ys : List Value} {rs : List PyData} (hl : ys.length = rs.length) (s : St H₀ H X L m ((I, P 0) :: led) ims h₂) (hC : h₂.get? C = none) (hD : h₂.get? D = none) (hDC : D ≠ C)
    (hLs : Ls h D ys) (k : ∀ b o, b ≠ I → h₂.get? b = some o → h.get? b = some o) (hi : ∀ q ∈ ys.zip rs, ∃ as, Reads (hideAll h (C :: D :: L :: led.map (·.1))) q.1 q.2 as)
    (hn : h'.Ns L (lk m₁)) (kk : (m₁.map (·.1)).Nodup) (hs : ∀ b o, b ≠ C → b ≠ L → h.get? b = some o → h'.get? b = some o) : St H₀ H X L m₁ led ((.ref D, .list rs) :: ims) h' := by
  have s' : St H₀ H X L m₁ led ims h' := s.dropL hn kk fun b o n n2 e => hs b o (fun q => by rw [q, hC] at e; cases e) n2 (k b o n e)
  have dn : D ∉ L :: led.map (·.1) := fun q => by
    have : ∃ o, h₂.get? D = some o := by
      rcases List.mem_cons.mp q with e | q
      · obtain ⟨o, _, _, e1, _⟩ := s.ns; exact ⟨o, e ▸ e1⟩
      · obtain ⟨r, hr, rfl⟩ := List.mem_map.mp q
        obtain ⟨o, h1, _⟩ := s.ld r (.tail _ hr); exact ⟨o, h1⟩
    rw [hD] at this; obtain ⟨_, e⟩ := this; cases e
  obtain ⟨o, h1, n, rfl⟩ := hLs
  obtain ⟨as, ra⟩ := readsAll_of (h := hideAll h' (L :: led.map (·.1))) hl fun q hq => by
    obtain ⟨as, r⟩ := hi q hq
    exact ⟨as, reads_sub (fun b o n e => hs b o (fun q => n (q ▸ .head _)) (fun q => n (by rw [q]; exact .tail _ (.tail _ (.head _)))) e) (fun b hb => .inl (.tail _ (.tail _ hb))) r⟩
  exact s'.addIm (.list (hideAll_get _ (hs _ _ hDC (fun q => dn (q ▸ .head _)) h1) dn) rfl rfl (by simpa using ra))

variable {Q : Value → Heap → Prop} {m₀ : List (Str × Option Value)} {led₀ : List (Addr × OP)} {ims₀ : List (Value × PyData)}
theorem W_Comp (own : List Str) (ok : A.handled = none) (E : Ev e L cl nm) (hcl : clos cl scope.names [] = some ccl) (N : Nexts c A P ds rq) (hz : ds.length ≤ 1000)
    (init : Ent (St H₀ H X L m₀ led₀ ims₀) (W c A (eval iter e) (fun xv => W c A (pyIter xv) (itQ fun I => St H₀ H X L m ((I, P 0) :: led) ims))))
    (hreq : ∀ h₂ led' ims', (∀ q ∈ frz h₂ L led, q ∈ led') → (∀ q ∈ ims, q ∈ ims') → rq led' ims')
    (T : Turns c A H₀ L led ims ccl (relN scope.names nm) own ds mO p g target elt ifs)
    (res : ∀ D, Ent (St H₀ H X L m led ((.ref D, .list ((ds.filter p).map g)) :: ims)) (Q (.ref D)))
    (sc : compOk scope = true := by kernel_rfl) (hown : ∀ n, (cellsFrom n scope.names []).map (·.1) = own := by intros; kernel_rfl)
    (hm0 : ∀ z, lk (mO none) z = none := by exact fun z => lk_none _ z) (hmk : ((mO none).map (·.1)).Nodup := by simp) (ht : ∀ it v, letOwnedTupleGo target it v = pure () := by intros; kernel_rfl)
    (hs : ∀ x, foldedSetIterable iter e x = pure x := by intros; kernel_rfl) :
    Ent (St H₀ H X L m₀ led₀ ims₀) (W c A (eval (.ListComp elt [⟨target, iter, ifs, 0⟩] scope pos) e) Q) := by
  refine fun h s => ⟨fun tk g hg => ?_⟩
  rw [eval_ListComp]
  refine wpAny_comprehension_free (use := none) rfl hs (closureFor_of (by rw [E.cel]; exact hcl)) (beq_iff_eq.mp (Bool.and_eq_true_iff.mp sc).1)
    (fun y hy hl => by have := List.all_eq_true.mp (Bool.and_eq_true_iff.mp sc).2 y hy; rw [hl] at this; exact beq_iff_eq.mp this) ((init h s).up hg fun xv h₁ g₁ tk₁ hg₁ x => x.up hg₁ fun it h₂ g₂ tk₂ hg₂ y => ?_)
  obtain ⟨I, rfl, s₂⟩ := y
  refine comp_enter (RR := fun acc C => compPost (Mo c) A NoE none (Post c Q) acc C) own E sc hown hm0 hmk N hz hreq T ht (fun D C m' ys h tk gs hl hg hC hD hns hDC hLs k hi => ?_) s₂ hg₂
  have hIL : L ≠ I := fun q => (List.nodup_cons.mp s₂.nd).1 (q ▸ .head _)
  have hLC : L ≠ C := fun q => by obtain ⟨o, _, _, e1, _⟩ := s₂.ns; rw [q, hC] at e1; cases e1
  refine ⟨m', hns, fun h' hs' => Post.mk' hg (res D h' (comp_back hl s₂ hC hD hDC hLs k hi ?_ s₂.kk fun b o n _ e => hs'.extBut b o n e))⟩
  obtain ⟨o, es, ep, e1, r⟩ := s₂.ns
  exact ⟨o, es, ep, hs'.extBut _ _ hLC (k _ _ hIL e1), r⟩

/-- a comprehension bound to a name: the stores are exchanged -/
theorem W_CompA {y : Str} {py spos : Pos} {Qf : Flow → Heap → Prop} (own : List Str) (ok : A.handled = none) (E : Ev e L cl nm) (hcl : clos cl scope.names [] = some ccl) (N : Nexts c A P ds rq) (hz : ds.length ≤ 1000)
    (init : Ent (St H₀ H X L m₀ led₀ ims₀) (W c A (eval iter e) (fun xv => W c A (pyIter xv) (itQ fun I => St H₀ H X L m ((I, P 0) :: led) ims))))
    (hreq : ∀ h₂ led' ims', (∀ q ∈ frz h₂ L led, q ∈ led') → (∀ q ∈ ims, q ∈ ims') → rq led' ims')
    (T : Turns c A H₀ L led ims ccl (relN scope.names nm) own ds mO p g target elt ifs) (hy : nm.lookup y = some .local) (D₀ : Addr → List (Str × Option Value)) (se : ∀ D, Se y (.ref D) m (D₀ D))
    (res : ∀ D, Ent (St H₀ H X L (D₀ D) led ((.ref D, .list ((ds.filter p).map g)) :: ims)) (Qf .next))
    (hsw : swapsWith (.ListComp elt [⟨target, iter, ifs, 0⟩] scope pos) (some (.Name y py)) spos.line e = pure true)
    (sc : compOk scope = true := by kernel_rfl) (hown : ∀ n, (cellsFrom n scope.names []).map (·.1) = own := by intros; kernel_rfl)
    (hm0 : ∀ z, lk (mO none) z = none := by exact fun z => lk_none _ z) (hmk : ((mO none).map (·.1)).Nodup := by simp) (ht : ∀ it v, letOwnedTupleGo target it v = pure () := by intros; kernel_rfl)
    (hs : ∀ x, foldedSetIterable iter e x = pure x := by intros; kernel_rfl) :
    Ent (St H₀ H X L m₀ led₀ ims₀) (W c A (exec (.Assign [.Name y py] (.ListComp elt [⟨target, iter, ifs, 0⟩] scope pos) spos) e) Qf) := by
  refine fun h s => ⟨fun tk g hg => ?_⟩
  rw [exec_Assign_Name_used _ _ _ _ hsw]
  refine wpAny_bind (wpAny_standAt (wpAny_bind ?_))
  show wpAny _ A (do let _ ← comprehension (.ListComp elt [⟨target, iter, ifs, 0⟩] scope pos) scope e _ (newList []) false (eval iter e) (some (assign (.Name y py) e))) _ _ _
  refine wpAny_bind (wpAny_mono (wpAny_comprehension_free (use := some (assign (.Name y py) e)) (Q := fun _ => Post c Qf .next) rfl hs (closureFor_of (by rw [E.cel]; exact hcl)) (beq_iff_eq.mp (Bool.and_eq_true_iff.mp sc).1)
    (fun y hy hl => by have := List.all_eq_true.mp (Bool.and_eq_true_iff.mp sc).2 y hy; rw [hl] at this; exact beq_iff_eq.mp this) ((init h s).up hg fun xv h₁ g₁ tk₁ hg₁ x => x.up hg₁ fun it h₂ g₂ tk₂ hg₂ y => ?_)) (fun _ s' hq => wpAny_pure (wpAny_pure hq)) fun _ _ e => e)
  obtain ⟨I, rfl, s₂⟩ := y
  refine comp_enter (RR := fun acc C => compPost (Mo c) A NoE (some (assign (.Name _ py) e)) (fun _ => Post c Qf .next) acc C) own E sc hown hm0 hmk N hz hreq T ht (fun D C m' ys h tk gs hl hg hC hD hns hDC hLs k hi => ?_) s₂ hg₂
  have hLC : L ≠ C := fun q => by obtain ⟨o, _, _, e1, _⟩ := s₂.ns; rw [q, hC] at e1; cases e1
  have hIL : L ≠ I := fun q => (List.nodup_cons.mp s₂.nd).1 (q ▸ .head _)
  have hnsL : h.Ns L (lk m) := by
    obtain ⟨o, es, ep, e1, r⟩ := s₂.ns
    exact ⟨o, es, ep, k _ _ hIL e1, r⟩
  show wpAny _ A (assign (.Name _ py) e (.ref D)) _ _ _
  refine wpAny_assign_Name (wpAny_storeName_local (E.kindOf hy) (m := lk m) (by rw [E.loc]; exact hnsL) (fun h₂' hn₂ hs₂ => ?_) (by rw [E.kind]; rfl))
  rw [E.loc] at hn₂ hs₂
  refine ⟨m', hns.sameBut hs₂ (Ne.symm hLC), fun h₃ hs₃ => Post.mk' hg (res D h₃ ?_)⟩
  refine comp_back hl s₂ hC hD hDC hLs k hi ?_ ((se D).keys ▸ s₂.kk) fun b o n n2 e => hs₃.extBut b o n (hs₂.extBut b o n2 e)
  rw [show lk (D₀ D) = _ from funext ((se D).lk s₂.kk)]
  exact hn₂.sameBut hs₃ hLC
end
end
section
open PySem PySem.W PyProof.Rows PySem.Calls

section
variable {c : Cf} {A : Around} {e : Env} {S : Heap → Prop} {pos : Pos} {Q : Value → Heap → Prop} {x y : Str} {t u : Tok} {H₀ H hh : Heap} {X M : List Addr} {L a : Addr} {m : List (Str × Option Value)} {led led' : List (Addr × OP)} {ims : List (Value × PyData)}

/-! ### texts -/
theorem x_sub {k : Int} {ve se : Expr} (j ch : Nat) (hk : k = (j : Int)) (hf : j < 1000000) (hc : x.cps[j]? = some ch) (q : ∀ t, Ent S (Q (.str ⟨#[ch]⟩ t)))
    (hs : subscripted se false (.str x t) (.int k u) = operate [.str x t, .int k u] (getItem (.str x t) (.int k u)) := by kernel_rfl) : Ent S (W c A (subscriptTail ve se (.str x t) (.int k u)) Q) := by
  subst hk
  refine fun h s => ⟨fun tk g hg => tail_any (typeIs_str _ x t) F.slot_str_getitem.lookup (PySem.P.getItem_str (c := ch) ?_ ?_ (Post.mk' hg (q _ h s))) hs⟩
  · simp; omega
  · have hj : j < x.cps.size := (Array.getElem?_eq_some_iff.mp hc).1
    have : seqIndex? (j : Int) x.length = some j := seqIndex_of (by omega) (Int.ofNat_lt.mpr hj)
    rw [this]; exact hc
theorem x_add (hz : x.length + y.length ≤ 1000) (q : ∀ t, Ent S (Q (.str (x ++ y) t))) : Ent S (W c A (binaryOp .Add (.str x t) (.str y u)) Q) :=
  fun h s => ⟨fun tk g hg => PyProof.Rows.add_str (fun _ _ => Post.mk' hg (q _ h s)) (sz hz)⟩
theorem x_eq (q : Ent S (Q (.bool (x == y)))) : Ent S (W c A (compareOp .Eq (.str x t) (.str y u)) Q) := fun h s => ⟨fun tk g hg => PyProof.Rows.eq_str (Post.mk' hg (q h s))⟩
theorem x_ne (q : Ent S (Q (.bool (x != y)))) : Ent S (W c A (compareOp .NotEq (.str x t) (.str y u)) Q) := fun h s => ⟨fun tk g hg => PyProof.Rows.ne_str (Post.mk' hg (q h s))⟩
theorem x_gt (q : Ent S (Q (.bool (decide (y.cps.toList < x.cps.toList))))) : Ent S (W c A (compareOp .Gt (.str x t) (.str y u)) Q) := fun h s => ⟨fun tk g hg => PySem.P.gt_str (Post.mk' hg (q h s))⟩
theorem x_le (q : Ent S (Q (.bool (!decide (y.cps.toList < x.cps.toList))))) : Ent S (W c A (compareOp .LtE (.str x t) (.str y u)) Q) := fun h s => ⟨fun tk g hg => PySem.P.le_str (Post.mk' hg (q h s))⟩
theorem x_len (hz : x.length ≤ 1000) (q : ∀ t, Ent S (Q (.int x.length t))) : Ent S (W c A (call (.builtin "len") [.str x t]) Q) := fun h s => ⟨fun tk g hg => PySem.P.len_str (by omega) (Post.mk' hg (q _ h s))⟩

/-! ### ints that are not below nought -/
theorem b_modN {a b : Int} (n k : Nat) (ha : a = n) (hb : b = k) (hk : 0 < k) (q : ∀ t, Ent S (Q (.int (n % k : Nat) t))) : Ent S (W c A (binaryOp .Mod (.int a t) (.int b u)) Q) := by
  subst ha hb
  refine b_mod (by omega) fun t => ?_
  rw [Int.fmod_eq_emod_of_nonneg _ (by omega)]; exact q t
theorem b_divN {a b : Int} (n k : Nat) (ha : a = n) (hb : b = k) (hk : 0 < k ∧ k < 1000) (q : ∀ t, Ent S (Q (.int (n / k : Nat) t))) : Ent S (W c A (binaryOp .FloorDiv (.int a t) (.int b u)) Q) := by
  subst ha hb
  refine b_div (by omega) fun t => ?_
  rw [Int.fdiv_eq_ediv_of_nonneg _ (by omega)]; exact q t
theorem b_mod256 {a : Int} (q : ∀ t, Ent S (Q (.int (a.emod 256) t))) : Ent S (W c A (binaryOp .Mod (.int a t) (.int 256 u)) Q) := by
  refine b_mod (by omega) fun t => ?_
  rw [Int.fmod_eq_emod_of_nonneg _ (by omega)]; exact q t

/-! ### a written list at a place -/
theorem ls_sub {k : Int} {xs : List Value} {ve se : Expr} (j : Nat) (hm : (a, LsP xs) ∈ led) (hk : k = (j : Int)) (hj : j < xs.length) (hz : xs.length ≤ 1000) (q : ∀ v, xs[j]? = some v → Ent (St H₀ H X L m led ims) (Q v))
    (hs : subscripted se false (.ref a) (.int k u) = operate [.ref a, .int k u] (getItem (.ref a) (.int k u)) := by kernel_rfl) : Ent (St H₀ H X L m led ims) (W c A (subscriptTail ve se (.ref a) (.int k u)) Q) := by
  subst hk
  intro h s
  have l : Ls h a xs := s.at hm
  have e := List.getElem?_eq_getElem hj
  exact ⟨fun _ _ hg => tail_any (Heap.IsList.typeIs (s := Sh c h _ _) l.isList) slot_list_getitem.lookup (wpAny_getItem_list l.isList (by omega) (by omega) (by simpa using e) (Post.mk' hg (q _ e h s))) hs⟩

/-! ### contracts of defs that turn nothing -/
def PureQ (h : Heap) (V : Value → Prop) : Value → Heap → Prop := fun v h' => le h h' ∧ V v
def RetQ (h : Heap) (M : List Addr) (d : PyData) : Value → Heap → Prop := fun v h' => le h h' ∧ ∃ as, Reads (hideAll h' M) v d as
theorem E_pure {tr : Sem Value} (V : Value → Prop) (C : ∀ h, St H₀ H X L m led ims h → W c A tr (PureQ h V) h) (q : ∀ v, V v → Ent (St H₀ H X L m led ims) (Q v)) : Ent (St H₀ H X L m led ims) (W c A tr Q) :=
  fun h s => (C h s).mono fun v h' ⟨k, r⟩ => q v r h' (s.grow k)
theorem E_ret {tr : Sem Value} {d : PyData} (C : ∀ h, St H₀ H X L m led ims h → W c A tr (RetQ h (L :: led.map (·.1)) d) h) (q : ∀ v, Ent (St H₀ H X L m led ((v, d) :: ims)) (Q v)) : Ent (St H₀ H X L m led ims) (W c A tr Q) :=
  fun h s => (C h s).mono fun v h' ⟨k, as, r⟩ => q v h' ((s.grow k).addIm r)
theorem endPure {V : Value → Prop} {v : Value} (hv : V v) : Ent (St H₀ hh [] L m led ims) (PureQ hh V v) := fun h s => ⟨fun b o e => s.kp b o List.not_mem_nil e, hv⟩
/-- the caller's things, frozen -/
structure Old (H₀ h : Heap) (M : List Addr) : Prop where
  le : le H₀ h
  at_ : ∀ b ∈ M, ∃ o, h.get? b = some o
  no : ∀ b ∈ M, H₀.get? b = none
  nd : M.Nodup
abbrev frzM (h : Heap) (M : List Addr) : List (Addr × OP) := M.map fun b => (b, fun o => h.get? b = some o)
theorem frzM_keys {h : Heap} {M : List Addr} : (frzM h M).map (·.1) = M := by rw [List.map_map]; exact List.map_id M
theorem St.old {h : Heap} (s : St H₀ H X L m led ims h) : Old H₀ h (L :: led.map (·.1)) :=
  ⟨s.bs, fun b hb => by
    rcases List.mem_cons.mp hb with e | hb
    · obtain ⟨o, _, _, e1, _⟩ := s.ns; exact ⟨o, e ▸ e1⟩
    · obtain ⟨r, hr, rfl⟩ := List.mem_map.mp hb
      obtain ⟨o, h1, _⟩ := s.ld r hr; exact ⟨o, h1⟩, s.nb, s.nd⟩
theorem endRet {d : PyData} {v : Value} (hF : ∀ q ∈ frzM hh M, q ∈ led) (hv : (v, d) ∈ ims) : Ent (St H₀ hh M L m led ims) (RetQ hh M d v) := fun h s => by
  refine ⟨fun b o e => ?_, ?_⟩
  · by_cases x : b ∈ M
    · obtain ⟨o', h1, h2⟩ := s.ld _ (hF _ (List.mem_map_of_mem x))
      rw [h2] at e; cases e; exact h1
    · exact s.kp b o x e
  · obtain ⟨as, r⟩ := s.im _ hv
    refine ⟨as, reads_sub (fun _ _ _ e => e) (fun b hb => .inl (.tail _ ?_)) r⟩
    exact List.mem_map.mpr ⟨_, hF _ (List.mem_map_of_mem hb), rfl⟩
theorem W_defR {j : Nat} {vals : List Value} {d : PyData} (k : Nat) (ps rest : List Str) (B : Bs c H₀) (ok : Ok A (j + 1)) (O : Old H₀ hh M) (hi : ∀ p ∈ ims, ∃ as, Reads (hideAll hh M) p.1 p.2 as)
    (H : ∀ e L A', Ok A' j → Ev e L [] (sscope (stm k)).names → Ent (St H₀ hh M L (mk (bnd ps vals) rest) (frzM hh M) ims) (W c A' (execs (sbody (stm k)) e) (retQ (RetQ hh M d))))
    (hk : k ∈ defIdx := by decide) (hd : dk k = true := by kernel_rfl) (hc : chk (sscope (stm k)) ps rest = true := by kernel_rfl)
    (hbind : ∀ pm code doc, bindArgs (dfd k pm code doc) ⟨vals, []⟩ = pure (bnd ps vals) := by intros; kernel_rfl) (hlen : ps.length = vals.length := by rfl) :
    W c A (call (.ref (c.fa k)) vals) (RetQ hh M d) hh :=
  W_defN (led := frzM hh M) k ps rest B ok O.le hk hd hbind hlen hc (fun p hp => by
    obtain ⟨b, hb, rfl⟩ := List.mem_map.mp hp
    obtain ⟨o, h1⟩ := O.at_ b hb; exact ⟨o, h1, h1⟩) (by rw [frzM_keys]; exact O.no) (by rw [frzM_keys]; exact O.nd) (by rw [frzM_keys]; exact hi)
    fun e L A' ok' E _ => by rw [frzM_keys]; exact H e L A' ok' E
end
end
section
open PySem PySem.W PyProof.Rows PySem.Calls

/-! ## a def of one parameter, some of whose names are cells -/
theorem lookup_nd {α : Type} {q : Str × α} : ∀ {l : List (Str × α)}, (l.map (·.1)).Nodup → q ∈ l → l.lookup q.1 = some q.2
  | (x, v) :: r, nd, hq => by
    have nd := List.nodup_cons.mp nd
    rw [List.lookup_cons]
    rcases List.mem_cons.mp hq with rfl | hq
    · simp
    · have : (q.1 == x) = false := beq_eq_false_iff_ne.mpr fun e => nd.1 (List.mem_map.mpr ⟨q, hq, e⟩)
      rw [this]; exact lookup_nd nd.2 hq
def chkC (scope : Scope) (p : Str) (rest own : List Str) (isCell : Bool) : Bool :=
  (scope.names.lookup p == some (if isCell then .cell else .local)) && decide (if isCell then rest else p :: rest).Nodup && decide own.Nodup && (!isCell || own.contains p)
section
variable {c : Cf} {A : Around} {H₀ hh : Heap} {M : List Addr} {ims : List (Value × PyData)}
theorem W_defRC {j : Nat} {v : Value} {d : PyData} (k : Nat) (p : Str) (rest own : List Str) (isCell : Bool) (B : Bs c H₀) (ok : Ok A (j + 1)) (O : Old H₀ hh M) (hi : ∀ p ∈ ims, ∃ as, Reads (hideAll hh M) p.1 p.2 as)
    (H : ∀ e L A' (oc : List (Str × Addr)), oc.map (·.1) = own → Ok A' j → Ev e L oc (sscope (stm k)).names →
      Ent (St H₀ hh M L (if isCell then rest.map (fun x => (x, none)) else (p, some v) :: rest.map (fun x => (x, none))) ((oc.map fun q => (q.2, CellP (if isCell && q.1 == p then some v else none))) ++ frzM hh M) ims) (W c A' (execs (sbody (stm k)) e) (retQ (RetQ hh M d))))
    (hk : k ∈ defIdx := by decide) (hd : dk k = true := by kernel_rfl) (hc : chkC (sscope (stm k)) p rest own isCell = true := by kernel_rfl) (hown : ∀ n, (cellsFrom n (sscope (stm k)).names []).map (·.1) = own := by intros; kernel_rfl)
    (hbind : ∀ pm code doc, bindArgs (dfd k pm code doc) ⟨[v], []⟩ = pure [(p, v)] := by intros; kernel_rfl) :
    W c A (call (.ref (c.fa k)) [v]) (RetQ hh M d) hh := by
  simp only [chkC, Bool.and_eq_true] at hc
  obtain ⟨⟨⟨hc1, hc2⟩, hc3⟩, hc4⟩ := hc
  have hc1 := beq_iff_eq.mp hc1
  have hc2 := of_decide_eq_true hc2
  have hc3 := of_decide_eq_true hc3
  obtain ⟨hd1, hgn⟩ := Bool.and_eq_true_iff.mp hd
  obtain ⟨hkd, hco⟩ := Bool.and_eq_true_iff.mp hd1
  have hkd := beq_iff_eq.mp hkd
  have hco : (sscope (stm k)).isCoroutine = false := by simpa using hco
  have hgn : (sscope (stm k)).isGenerator = false := by simpa using hgn
  refine ⟨fun tk g hg => ?_⟩
  obtain ⟨o, pm, code, doc, h1, h2, h3, h4⟩ := B.fn k hk
  have hcell : isCell = true → ∀ n, ((cellsFrom n (sscope (stm k)).names []).lookup p).isSome = true := fun q n => by
    rw [q] at hc4
    have : p ∈ (cellsFrom n (sscope (stm k)).names []).map (·.1) := by rw [hown]; simpa using hc4
    obtain ⟨r, hr, rfl⟩ := List.mem_map.mp this
    rw [lookup_nd (by rw [hown]; exact hc3) hr]; rfl
  refine wpAny_call (codeAny_call_cells (body := sbody (stm k)) (vals := [v]) (binds := [(p, v)]) ok.room (O.le _ _ h1) h2 (B.lim.keeps O.le) (h3.keeps O.le) rfl (hbind _ _ _) rfl (fun x hx => ?_) (fun s₁ I => ?_) hco hgn hkd)
  · rw [List.mem_singleton.mp hx]
    cases isCell with
    | false => exact .inl hc1
    | true => exact .inr ⟨hc1, hcell rfl _⟩
  · obtain ⟨h₁, tk₁, rfl⟩ := I.toInCall.same
    have hw := hown (hh.objs.size + 1)
    have I' : InCallC (Sh c hh g tk) hh.objs.size _ (cellsFrom (hh.objs.size + 1) (sscope (stm k)).names []) _ (Sh c h₁ g tk₁) := I
    have cellAt : ∀ q ∈ cellsFrom (hh.objs.size + 1) (sscope (stm k)).names [], h₁.IsCell q.2 _ ∧ hh.objs.size < q.2 := fun q hq => ⟨I'.cell q.1 q.2 (lookup_nd (by rw [hw]; exact hc3) hq), I'.above q.1 q.2 hq⟩
    have hloc : ∀ y, bindL (callEnvC (dfd k pm code doc) hh.objs.size (c.fa k)).kindOf [(p, v)] (fun _ => none) y = lk (if isCell then rest.map (fun x => (x, none)) else (p, some v) :: rest.map (fun x => (x, none))) y := fun y => by
      show (if (sscope (stm k)).names.lookup p = some .local then fun y => if y = p then some v else none else fun _ => none) y = _
      cases isCell with
      | true => rw [hc1]; simp only [if_true]; exact (lk_none rest y).symm
      | false =>
        rw [hc1]
        simp only [if_true, Bool.false_eq_true, if_false]
        show _ = bif y == p then some v else lk (rest.map fun x => (x, none)) y
        rw [lk_none]
        by_cases q : y = p
        · simp [q]
        · have : (y == p) = false := beq_eq_false_iff_ne.mpr q
          simp [q, this]
    have hce : ∀ y, bindC (callEnvC (dfd k pm code doc) hh.objs.size (c.fa k)).kindOf [(p, v)] (fun _ => none) y = if isCell && y == p then some v else none := fun y => by
      show (if (sscope (stm k)).names.lookup p = some .local then fun _ => none else fun y => if y = p then some v else none) y = _
      cases isCell with
      | true => rw [hc1]; simp
      | false => rw [hc1]; simp
    have s : St H₀ hh ((frzM hh M).map (·.1)) hh.objs.size (if isCell then rest.map (fun x => (x, none)) else (p, some v) :: rest.map (fun x => (x, none)))
        (((cellsFrom (hh.objs.size + 1) (sscope (stm k)).names []).map fun q => (q.2, CellP (if isCell && q.1 == p then some v else none))) ++ frzM hh M) ims h₁ := by
      refine St.enter _ O.le (fun b o _ e => I'.toInCall.keep b o e) (by rw [← funext hloc]; exact I'.toInCall.ns) ?_ (fresh_none _ (Nat.le_refl _)) (fun q hq => ?_) ?_ (fun q hq => ?_) (by rw [frzM_keys]; exact O.no) (by rw [frzM_keys]; exact O.nd) (by rw [frzM_keys]; exact hi)
      · cases isCell with
        | true => simpa [Function.comp_def] using hc2
        | false => simpa [Function.comp_def] using hc2
      · obtain ⟨r, hr, rfl⟩ := List.mem_map.mp hq
        have z := cellAt r hr
        rw [hce] at z
        exact ⟨z.1, fresh_none _ (Nat.le_of_lt z.2), Nat.ne_of_gt z.2⟩
      · rw [List.map_map]
        exact List.pairwise_map.mpr I'.apart
      · obtain ⟨b, hb, rfl⟩ := List.mem_map.mp hq
        obtain ⟨o, h1⟩ := O.at_ b hb
        exact ⟨⟨o, h1⟩, o, I'.toInCall.keep _ _ h1, h1⟩
    rw [frzM_keys] at s
    have hw := (H (callEnvC (dfd k pm code doc) hh.objs.size (c.fa k)) hh.objs.size (A.deeper (callEnvC (dfd k pm code doc) hh.objs.size (c.fa k))) _ hw ok.deeper ⟨rfl, rfl, rfl, rfl, hkd, rfl⟩ h₁ s).run tk₁ g hg
    refine wpAny_mono hw (fun f s' x => ?_) fun _ _ x => x.elim
    obtain ⟨h', tk', g', rfl, hg', q⟩ := x
    cases f <;> exact Post.mk' hg' q
end
theorem swaps_comp {e : Env} {L : Addr} {cl : List (Str × Addr)} {nm : List (Str × NameKind)} {elt : Expr} {gens : List Comprehension} {scope : Scope} {pos py : Pos} {y : Str} {line : Nat} (E : Ev e L cl nm) (hy : nm.lookup y = some .local)
    (hp : (py.line == pos.line && !(scope.names.any fun (n, k) => n == y && (k == .local || k == .cell))) = true) : swapsWith (.ListComp elt gens scope pos) (some (.Name y py)) line e = pure true := by
  unfold swapsWith
  have h1 : e.blockKind = .function := by unfold Env.blockKind; rw [E.kind]; rfl
  simp only [h1, E.kindOf hy]
  rw [Bool.and_eq_true] at hp
  show (pure (_ : Bool) : Sem Bool) = pure true
  congr 1
  rw [show (py.line == (Expr.ListComp elt gens scope pos).pos.line) = true from hp.1, hp.2]; rfl
end
section
open PySem PySem.W PyProof.Rows PySem.Calls

section
variable {c : Cf} {A : Around} {H₀ H : Heap} {X : List Addr} {L : Addr} {m : List (Str × Option Value)} {led : List (Addr × OP)} {ims : List (Value × PyData)} {T : Heap → Prop} {v : Value}
theorem im_int {i : Int} (hm : (v, .int i) ∈ ims) (q : ∀ t, v = .int i t → Ent (St H₀ H X L m led ims) T) : Ent (St H₀ H X L m led ims) T := fun h s => by
  obtain ⟨as, r⟩ := s.read hm
  cases r with
  | int _ t => exact q t rfl h s
theorem im_str {x : Str} (hm : (v, .str x) ∈ ims) (q : ∀ t, v = .str x t → Ent (St H₀ H X L m led ims) T) : Ent (St H₀ H X L m led ims) T := fun h s => by
  obtain ⟨as, r⟩ := s.read hm
  cases r with
  | str _ t => exact q t rfl h s
theorem addInt {i : Int} {t : Tok} (q : Ent (St H₀ H X L m led ((.int i t, .int i) :: ims)) T) : Ent (St H₀ H X L m led ims) T := fun h s => q h (s.addIm (.int i t))
theorem addStr {x : Str} {t : Tok} (q : Ent (St H₀ H X L m led ((.str x t, .str x) :: ims)) T) : Ent (St H₀ H X L m led ims) T := fun h s => q h (s.addIm (.str x t))
/-- the values read as the data -/
inductive RdAll (ims : List (Value × PyData)) : List Value → List PyData → Prop
  | nil : RdAll ims [] []
  | int {i t vs ds} : RdAll ims vs ds → RdAll ims (.int i t :: vs) (.int i :: ds)
  | im {v d vs ds} : (v, d) ∈ ims → RdAll ims vs ds → RdAll ims (v :: vs) (d :: ds)
theorem RdAll.reads {h : Heap} (s : St H₀ H X L m led ims h) : ∀ {vs : List Value} {ds : List PyData}, RdAll ims vs ds → ∃ as, ReadsAll (hideAll h (L :: led.map (·.1))) vs ds as
  | _, _, .nil => ⟨_, .nil⟩
  | _, _, .int r => let ⟨_, q⟩ := r.reads s; ⟨_, .cons (.int _ _) q⟩
  | _, _, .im hm r => let ⟨_, q⟩ := r.reads s; let ⟨_, p⟩ := s.im _ hm; ⟨_, .cons p q⟩
theorem push_new {h : Heap} {o : Obj} (s : St H₀ H X L m led ims h) (hf : o.isFreed = false) : (hideAll (h.push o) (L :: led.map (·.1))).get? h.objs.size = some o :=
  hideAll_get _ (Heap.get?_push_size _ hf) fun q => Nat.lt_irrefl _ (s.inH q)
/-- a written list, not changed again -/
theorem newLsIm {vs : List Value} {Q : Value → Heap → Prop} (ds : List PyData) (r : RdAll ims vs ds) (hl : vs.length ≤ 1000) (q : ∀ a, Ent (St H₀ H X L m led ((.ref a, .list ds) :: ims)) (Q (.ref a))) : Ent (St H₀ H X L m led ims) (NewLs Q vs) := fun h s => by
  have s' := s.grow (h' := h.push (W.listOf vs.toArray 0)) fun b o e => Heap.get?_push_of_some _ e
  obtain ⟨as, ra⟩ := r.reads s'
  exact ⟨hl, q _ _ (s'.addIm (.list (push_new s rfl) rfl rfl (by simpa using ra)))⟩
theorem newTupIm {vs : List Value} {Q : Value → Heap → Prop} (ds : List PyData) (r : RdAll ims vs ds) (hl : vs.length ≤ 1000) (q : ∀ a, Ent (St H₀ H X L m led ((.ref a, .tuple ds) :: ims)) (Q (.ref a))) : Ent (St H₀ H X L m led ims) (NewTup Q vs) := fun h s => by
  have s' := s.grow (h' := h.push (tupOf vs)) fun b o e => Heap.get?_push_of_some _ e
  obtain ⟨as, ra⟩ := r.reads s'
  exact ⟨hl, q _ _ (s'.addIm (.tuple (push_new s rfl) rfl rfl (by simpa using ra)))⟩
theorem range_iter {t : Tok} (n : Nat) {k : Int} (hk : k = n) (hn : n ≤ 1000) : Ent (St H₀ H X L m led ims) (W c A (call (.type "range") [.int k t]) (fun xv => W c A (pyIter xv) (itQ fun I => St H₀ H X L m ((I, RI 0 1 n 0) :: led) ims))) := by
  subst hk
  refine fun h s => ⟨fun tk g hg => call_range_1 (Post.mk' hg ⟨fun tk g hg => ?_⟩)⟩
  have hr : Builtin.Range.rangeSize 0 (n : Int) 1 = n := by
    unfold Builtin.Range.rangeSize
    simp
    try omega
  refine wpAny_pyIter_range (Heap.get?_push_size _ rfl) ?_ (Post.mk' hg ⟨_, rfl, ?_⟩)
  · have f : ∀ i : Int, 0 ≤ i → i ≤ 1000 → Builtin.Range.rangeFitsLong i = true := fun i h1 h2 => by unfold Builtin.Range.rangeFitsLong; simp; omega
    unfold Builtin.Range.small
    rw [hr, f 0 (by decide) (by decide), f n (by omega) (by omega), f 1 (by decide) (by decide)]
    simp [f n (by omega) (by omega)]
  · rw [hr]
    exact St.pushLed (s.grow fun b o e => Heap.get?_push_of_some _ e) rfl (by show _ = Obj.mk _ _ (.fields #[rawInt _, rawInt _, rawInt _]) _; simp)

end
section
variable {c : Cf} {A : Around} {H₀ H h₂ : Heap} {X : List Addr} {L L' ca : Addr} {m : List (Str × Option Value)} {led led' : List (Addr × OP)} {ims : List (Value × PyData)} {cl : List (Str × Addr)} {nm : List (Str × NameKind)} {e : Env} {x : Str} {pos : Pos} {v : Value} {Q : Value → Heap → Prop}
/-- a cell of the outer frame, within a comprehension -/
theorem W_cellF (E : Ev e L cl nm) (hF : ∀ q ∈ frz h₂ L' led', q ∈ led) (hc : cl.lookup x = some ca) (hm : (ca, CellP (some v)) ∈ led') (hl : nm.lookup x = some .cell) (q : Ent (St H₀ H X L m led ims) (Q v))
    (hd : (x == ("__debug__" : Str)) = false := by kernel_rfl) : Ent (St H₀ H X L m led ims) (W c A (eval (.Name x pos) e) Q) :=
  W_cell (P := fun o => h₂.get? ca = some o ∧ CellP (some v) o) E hl hc (hF _ (.tail _ (List.mem_map.mpr ⟨_, hm, rfl⟩))) (fun _ q => q.2) q hd
end
/-- the numbers below eight that pass, as a list -/
abbrev k8 (pk : Nat → Bool) : PyData := .list (((List.range 8).filter pk).map fun k => .int (k : Nat))
section
variable {c : Cf} {A : Around} {H₀ H : Heap} {X : List Addr} {L : Addr} {m : List (Str × Option Value)} {led : List (Addr × OP)} {ims : List (Value × PyData)} {e : Env} {cl ccl : List (Str × Addr)} {nm : List (Str × NameKind)} {pk : Nat → Bool}
  {scope : Scope} {pos px py spos rp p1 p2 p3 : Pos} {kk : Nat} {test : Expr}
abbrev dsK : List PyData := (List.range 8).map fun i => .int (0 + (i : Nat) * 1)
def pD (pk : Nat → Bool) : PyData → Bool
  | .int i => pk i.toNat
  | _ => false
theorem k8_eq : .list ((dsK.filter (pD pk)).map id) = k8 pk := by
  show PyData.list (((dsK.filter (pD pk)).map id)) = .list (((List.range 8).filter pk).map fun k => .int (k : Nat))
  rw [List.map_id, List.filter_map]
  have : (pD pk ∘ fun (i : Nat) => PyData.int (0 + (i : Int) * 1)) = pk := by
    funext i
    show pk (0 + (i : Int) * 1).toNat = pk i
    congr 1; omega
  rw [this]
  congr 1
  apply List.map_congr_left
  intro i _
  congr 1; omega
/-- the test of such a comprehension, for each number -/
def Test8 (c : Cf) (A : Around) (H₀ : Heap) (L : Addr) (led : List (Addr × OP)) (ims : List (Value × PyData)) (ccl : List (Str × Addr)) (names : List (Str × NameKind)) (pk : Nat → Bool) (test : Expr) : Prop :=
  ∀ h₂ I C cenv (led' : List (Addr × OP)) (ims' : List (Value × PyData)) (R : Bool → Heap → Prop) (k : Nat) (t : Tok), Ev cenv C ccl names → k < 8 → (∀ q ∈ frz h₂ L led, q ∈ led') → (∀ q ∈ ims, q ∈ ims') →
    Ent (St H₀ h₂ (I :: L :: led.map (·.1)) C [("k", some (.int k t))] led' ims') (R (pk k)) → Ent (St H₀ h₂ (I :: L :: led.map (·.1)) C [("k", some (.int k t))] led' ims') (W c A (isTrue test cenv (eval test cenv)) R)
theorem turns8 {names : List (Str × NameKind)} (hk : names.lookup ("k" : Str) = some .local) (T : Test8 c A H₀ L led ims ccl names pk test) :
    Turns c A H₀ L led ims ccl names [] dsK (fun u => [("k", u)]) (pD pk) id (.Name "k" px) (.Name "k" py) [test] := by
  intro h₂ I C cenv oc hoc Ec
  obtain rfl : oc = [] := List.map_eq_nil_iff.mp hoc
  have num : ∀ {d : PyData}, d ∈ dsK → ∃ k : Nat, k < 8 ∧ d = .int k := fun hd => by
    obtain ⟨i, hi, rfl⟩ := List.mem_map.mp hd
    exact ⟨i, List.mem_range.mp hi, by congr 1; omega⟩
  refine ⟨fun u v x r ims R q => W_aName (W_store Ec hk .head q), fun v d led' ims' R hd hF _ hv hI q => ?_, fun v d led' ims' R hd hp hF _ hv hI q => ?_⟩
  · obtain ⟨k, hk8, rfl⟩ := num hd
    refine im_int hv fun t e => ?_
    subst e
    exact fun h s => ⟨fun tk g hg => wpAny_tests_one ((T h₂ I C cenv led' ims' R k t Ec hk8 hF hI q h s).k1 hg)⟩
  · exact W_local Ec hk .head (fun h s => q v h (s.addIm (s.im _ hv).choose_spec))
variable {Q : Value → Heap → Prop}
/-- [k for k in range(8) if test] -/
theorem W_K8 (ok : A.handled = none) (B : Bs c H₀) (E : Ev e L cl nm) (hcl : clos cl scope.names [] = some ccl) (T : Test8 c A H₀ L led ims ccl (relN scope.names nm) pk test)
    (res : ∀ D, Ent (St H₀ H X L m led ((.ref D, k8 pk) :: ims)) (Q (.ref D)))
    (hr : nm.lookup ("range" : Str) = some .globalImplicit := by kernel_rfl) (hk : (relN scope.names nm).lookup ("k" : Str) = some .local := by kernel_rfl)
    (sc : compOk scope = true := by kernel_rfl) (hown : ∀ n, (cellsFrom n scope.names []).map (·.1) = [] := by intros; kernel_rfl)
    (hs : ∀ x, foldedSetIterable (.Call (.Name "range" p1) [.Constant (.int 8) kk p2] [] p3) e x = pure x := by intros; kernel_rfl) :
    Ent (St H₀ H X L m led ims) (W c A (eval (.ListComp (.Name "k" py) [⟨.Name "k" px, .Call (.Name "range" p1) [.Constant (.int 8) kk p2] [] p3, [test], 0⟩] scope pos) e) Q) :=
  W_Comp [] ok E hcl (nexts_range ok 0 1 8) (by decide) (W_callT "range" B E (W_items (W_int fun t => W_items_nil (range_iter 8 rfl (by decide)))) (hl := hr)) (fun _ _ _ _ _ => trivial) (turns8 hk T) (fun D => by
    rw [show PyData.list ((dsK.filter (pD pk)).map id) = k8 pk from k8_eq]; exact res D) sc hown (hm0 := fun z => lk_none [_] z) (hs := hs)
/-- between = [k for k in range(8) if test] -/
theorem W_K8A {y : Str} {pz : Pos} {Qf : Flow → Heap → Prop} {D₀ : Addr → List (Str × Option Value)} (ok : A.handled = none) (B : Bs c H₀) (E : Ev e L cl nm) (hcl : clos cl scope.names [] = some ccl) (T : Test8 c A H₀ L led ims ccl (relN scope.names nm) pk test)
    (se : ∀ D, Se y (.ref D) m (D₀ D)) (res : ∀ D, Ent (St H₀ H X L (D₀ D) led ((.ref D, k8 pk) :: ims)) (Qf .next))
    (hy : nm.lookup y = some .local := by kernel_rfl) (hp : (pz.line == pos.line && !(scope.names.any fun (n, k) => n == y && (k == .local || k == .cell))) = true := by kernel_rfl)
    (hr : nm.lookup ("range" : Str) = some .globalImplicit := by kernel_rfl) (hk : (relN scope.names nm).lookup ("k" : Str) = some .local := by kernel_rfl)
    (sc : compOk scope = true := by kernel_rfl) (hown : ∀ n, (cellsFrom n scope.names []).map (·.1) = [] := by intros; kernel_rfl)
    (hs : ∀ x, foldedSetIterable (.Call (.Name "range" p1) [.Constant (.int 8) kk p2] [] p3) e x = pure x := by intros; kernel_rfl) :
    Ent (St H₀ H X L m led ims) (W c A (exec (.Assign [.Name y pz] (.ListComp (.Name "k" py) [⟨.Name "k" px, .Call (.Name "range" p1) [.Constant (.int 8) kk p2] [] p3, [test], 0⟩] scope pos) spos) e) Qf) :=
  W_CompA [] ok E hcl (nexts_range ok 0 1 8) (by decide) (W_callT "range" B E (W_items (W_int fun t => W_items_nil (range_iter 8 rfl (by decide)))) (hl := hr)) (fun _ _ _ _ _ => trivial) (turns8 hk T) hy D₀ se (fun D => by
    rw [show PyData.list ((dsK.filter (pD pk)).map id) = k8 pk from k8_eq]; exact res D) (swaps_comp E hy hp) sc hown (hm0 := fun z => lk_none [_] z) (hs := hs)
end
end
section
open PySem PySem.W
/-! ## signs, items, what is meant: plain facts -/
/-- the letter at k -/
def ltr (k : Nat) : Str := ⟨#[97 + k]⟩
def bra (lo hi : Nat) : Str := ⟨#[91, 97 + lo, 45, 97 + hi, 93]⟩
def sgn (d : Nat) : Str := if d / 64 % 4 = 0 then ⟨#[63]⟩ else if d / 64 % 4 = 1 then ltr (d % 8) else bra (d % 8) (d / 8 % 8)
def itm (d : Nat) : Str := if d / 64 % 4 = 0 then ⟨#[46]⟩ else if d / 64 % 4 = 1 then ltr (d % 8) else if d % 8 ≤ d / 8 % 8 then bra (d % 8) (d / 8 % 8) else ⟨#[40, 63, 33, 41]⟩
/-- what a sign is meant to take -/
def mnt (d : Nat) : PyData := if d / 64 % 4 = 0 then k8 (fun _ => true) else if d / 64 % 4 = 1 then .list [.int (d % 8 : Nat)] else k8 fun k => decide (d % 8 ≤ k) && decide (k ≤ d / 8 % 8)
theorem eNone : Str.ofString "(?!)" = ⟨#[40, 63, 33, 41]⟩ := by decide +kernel
theorem eDot : Str.ofString "." = ⟨#[46]⟩ := by decide +kernel
theorem abc_at (k : Nat) (h : k < 8) : (Str.ofString "abcdefgh").cps[k]? = some (97 + k) := by
  have e : Str.ofString "abcdefgh" = ⟨#[97, 98, 99, 100, 101, 102, 103, 104]⟩ := by decide +kernel
  rw [e]
  match k, h with
  | 0, _ | 1, _ | 2, _ | 3, _ | 4, _ | 5, _ | 6, _ | 7, _ => rfl
theorem lt1 (a b : Nat) : decide ((⟨#[97 + a]⟩ : Str).cps.toList < (⟨#[97 + b]⟩ : Str).cps.toList) = decide (a < b) := by
  show decide ([97 + a] < [97 + b]) = _
  rw [decide_eq_decide, List.cons_lt_cons_iff]
  simp
theorem lt1' (a b : Nat) : (⟨#[97 + a]⟩ : Str).cps.toList < (⟨#[97 + b]⟩ : Str).cps.toList ↔ a < b := decide_eq_decide.mp (lt1 a b)
theorem ltr_eq (a b : Nat) : (ltr a == ltr b) = (a == b) := by
  rw [Bool.eq_iff_iff, beq_iff_eq, beq_iff_eq]
  simp [ltr]
theorem ltr_dot (a : Nat) : (ltr a == ⟨#[46]⟩) = false := by
  rw [beq_eq_false_iff_ne]; intro h
  have : 97 + a = 46 := by simpa [ltr] using h
  omega
theorem ltr_len (a : Nat) : (ltr a).length = 1 := rfl
theorem bra_len (a b : Nat) : (bra a b).length = 5 := rfl
inductive ItmOf (d : Nat) : Prop
  | none : itm d = ⟨#[40, 63, 33, 41]⟩ → mnt d = .list [] → ItmOf d
  | dot : itm d = ⟨#[46]⟩ → mnt d = .list [.int 0, .int 1, .int 2, .int 3, .int 4, .int 5, .int 6, .int 7] → ItmOf d
  | letter : itm d = ltr (d % 8) → mnt d = k8 (fun k => ltr k == ltr (d % 8)) → ItmOf d
  | range : itm d = bra (d % 8) (d / 8 % 8) → mnt d = k8 (fun k => decide (d % 8 ≤ k) && decide (k ≤ d / 8 % 8)) → ItmOf d
theorem itmOf (d : Nat) : ItmOf d := by
  have h8 : d % 8 < 8 := Nat.mod_lt _ (by decide)
  by_cases h0 : d / 64 % 4 = 0
  · exact .dot (by simp [itm, h0]) (by rw [mnt, if_pos h0]; rfl)
  · by_cases h1 : d / 64 % 4 = 1
    · refine .letter (by simp [itm, h1]) ?_
      simp only [mnt, h1]
      generalize d % 8 = a at h8
      simp only [ltr_eq]
      match a, h8 with
      | 0, _ | 1, _ | 2, _ | 3, _ | 4, _ | 5, _ | 6, _ | 7, _ => rfl
    · by_cases h2 : d % 8 ≤ d / 8 % 8
      · exact .range (by simp [itm, h0, h1, h2]) (by simp [mnt, h0, h1])
      · refine .none (by simp [itm, h0, h1, h2]) ?_
        simp only [mnt, h0, h1, if_false, k8]
        rw [List.filter_eq_nil_iff.mpr]
        · rfl
        · intro k _; simp; omega
end
section
open PySem PySem.W PyProof.Rows PySem.Calls
def srt (ns : List Int) : List Int := ns.mergeSort (fun a b => decide (a ≤ b))
theorem srt_perm (ns : List Int) : (srt ns).Perm ns := List.mergeSort_perm _ _
theorem srt_len (ns : List Int) : (srt ns).length = ns.length := (srt_perm ns).length_eq
theorem srt_sorted (ns : List Int) : (srt ns).Pairwise (· ≤ ·) := by
  have := List.pairwise_mergeSort (le := fun (a b : Int) => decide (a ≤ b)) (fun a b c h1 h2 => by simp at *; omega) (fun a b => by simp; omega) ns
  exact this.imp fun h => by simpa using h
theorem srt_eq {ns ms : List Int} (p : ms.Perm ns) (s : ms.Pairwise (· ≤ ·)) : ms = srt ns :=
  List.Perm.eq_of_pairwise (fun a b _ _ h1 h2 => Int.le_antisymm h1 h2) s (srt_sorted ns) (p.trans (srt_perm ns).symm)

section
variable {c : Cf} {A : Around} {H₀ H h h' : Heap} {X : List Addr} {L a l : Addr} {m : List (Str × Option Value)} {led : List (Addr × OP)} {ims : List (Value × PyData)} {Q : Value → Heap → Prop} {ns : List Int}
theorem St.newAt {P : OP} (s : St H₀ H X L m led ims h) (k : le h h') (ha : h.get? a = none) (hp : ∃ o, h'.get? a = some o ∧ P o) : St H₀ H X L m ((a, P) :: led) ims h' := by
  refine s.step (fun b o _ e => k b o e) (s.ns.keeps k) s.kk (fun b hb => ?_) (fun p q => ?_) ?_
  · rcases List.mem_cons.mp hb with e | hb
    · exact .inr (e ▸ ha)
    · exact .inl hb
  · rcases List.mem_cons.mp q with e | q
    · subst e; exact hp
    · obtain ⟨o', ho', r⟩ := s.ld p q
      exact ⟨o', k _ _ ho', r⟩
  · have nd := s.nd
    have n1 : a ∉ L :: led.map (·.1) := fun q => by
      rcases List.mem_cons.mp q with e | q
      · obtain ⟨o, _, _, e1, _⟩ := s.ns; rw [← e, ha] at e1; cases e1
      · obtain ⟨p, hq, rfl⟩ := List.mem_map.mp q
        obtain ⟨o, e1, _⟩ := s.ld p hq; rw [ha] at e1; cases e1
    simp only [List.map_cons, List.nodup_cons, List.mem_cons, not_or] at nd n1 ⊢
    exact ⟨⟨fun e => n1.1 e.symm, nd.1⟩, n1.2, nd.2⟩
abbrev iDat (ns : List Int) : PyData := .list (ns.map .int)
theorem intsAre_of : ∀ {vs : List Value} {ns : List Int} {as : List Addr}, ReadsAll h vs (ns.map .int) as → IntsAre vs ns
  | _, [], _, .nil => .nil
  | _, n :: ns, _, .cons (.int _ t) r => .cons n t (intsAre_of r)
theorem readsAll_ints : ∀ {vs : List Value} {ns : List Int}, IntsAre vs ns → ∃ as, ReadsAll h vs (ns.map .int) as
  | _, _, .nil => ⟨_, .nil⟩
  | _, _, .cons n t r => let ⟨_, q⟩ := readsAll_ints r; ⟨_, .cons (.int n t) q⟩
/-- where the ints of a list stand -/
def SrcI (led : List (Addr × OP)) (ims : List (Value × PyData)) (l : Addr) (ns : List Int) : Prop := (.ref l, iDat ns) ∈ ims ∨ (∃ P : OP, (l, P) ∈ led ∧ ∀ o, P o → IL ns o)
theorem SrcI.at_ (r : SrcI led ims l ns) (s : St H₀ H X L m led ims h) : ∃ vs, h.IsList l vs.toArray ∧ IntsAre vs ns := by
  rcases r with hm | ⟨P, hm, hP⟩
  · obtain ⟨as, r⟩ := s.read hm
    obtain ⟨o, vs, n, bs, h1, h2, h3, h4⟩ := reads_list r
    exact ⟨vs.toList, ⟨o, h1, h2, n, by simpa using h3⟩, intsAre_of h4⟩
  · obtain ⟨o, h1, h2⟩ := s.at hm
    obtain ⟨vs, n, i, rfl⟩ := hP o h2
    exact ⟨vs, PySem.IsL.isList (n := n) h1, i⟩
theorem e_sorted (r : SrcI led ims l ns) (hz : ns.length < 64) (q : ∀ a, Ent (St H₀ H X L m ((a, IL (srt ns)) :: led) ims) (Q (.ref a))) : Ent (St H₀ H X L m led ims) (W c A (call (.builtin "sorted") [.ref l]) Q) := fun h s => by
  obtain ⟨vs, hl, hi⟩ := r.at_ s
  refine ⟨fun tk g hg => sorted_ints hl hi (by rw [hi.length]; exact hz) fun out ns' a1 a2 a3 => Post.mk' hg (q _ _ (s.newAt (fun b o e => sortedAll_old e) (fresh_none _ (Nat.le_succ _)) ?_))⟩
  obtain ⟨e, he⟩ := sortedAll_at (Sh c h g tk).heap vs out
  exact ⟨_, he, out.toList, e, srt_eq a2 a3 ▸ a1, by simp [seqObj, W.listOf]⟩
/-- the ledger's list is not changed again -/
theorem freeze {T : Heap → Prop} (q : Ent (St H₀ H X L m led ((.ref a, iDat ns) :: ims)) T) : Ent (St H₀ H X L m ((a, IL ns) :: led) ims) T := fun h s => by
  obtain ⟨o, h1, vs, n, i, rfl⟩ := s.ld _ (.head _)
  have s' := s.forget (led' := led) (ims' := ims) (List.sublist_cons_self _ _) (fun p hp => hp)
  obtain ⟨as, ra⟩ := readsAll_ints (h := hideAll h (L :: led.map (·.1))) i
  have nd := s.nd
  simp only [List.map_cons, List.nodup_cons, List.mem_cons, not_or] at nd
  exact q h (s'.addIm (.list (hideAll_get _ h1 fun q => by
    rcases List.mem_cons.mp q with e | q
    · exact nd.1.1 e.symm
    · exact nd.2.1 q) rfl rfl (by simpa using ra)))
end
end
section
open PySem PySem.W PyProof.Rows PySem.Calls
/-- the least of a list -/
def minL : List Int → Int
  | [] => 0
  | a :: r => r.foldl (fun x y => if y < x then y else x) a
theorem minF_le : ∀ (r : List Int) (a : Int), r.foldl (fun x y => if y < x then y else x) a ≤ a ∧ (∀ y ∈ r, r.foldl (fun x y => if y < x then y else x) a ≤ y) ∧ (r.foldl (fun x y => if y < x then y else x) a = a ∨ r.foldl (fun x y => if y < x then y else x) a ∈ r)
  | [], a => ⟨Int.le_refl _, fun _ h => absurd h List.not_mem_nil, .inl rfl⟩
  | b :: r, a => by
    obtain ⟨h1, h2, h3⟩ := minF_le r (if b < a then b else a)
    rw [List.foldl_cons]
    by_cases h : b < a
    · rw [if_pos h] at h1 h2 h3 ⊢
      exact ⟨by omega, fun y hy => (List.mem_cons.mp hy).elim (fun e => e ▸ h1) (h2 y), .inr (h3.elim (fun e => by rw [e]; exact .head _) (.tail _))⟩
    · rw [if_neg h] at h1 h2 h3 ⊢
      exact ⟨h1, fun y hy => (List.mem_cons.mp hy).elim (fun e => by omega) (h2 y), h3.imp id (.tail _)⟩
theorem minL_spec {ns : List Int} (h : 0 < ns.length) : minL ns ∈ ns ∧ ∀ y ∈ ns, minL ns ≤ y := by
  cases ns with
  | nil => cases h
  | cons a r =>
    obtain ⟨h1, h2, h3⟩ := minF_le r a
    exact ⟨h3.elim (fun e => by show minL (a :: r) ∈ _; rw [show minL (a :: r) = a from e]; exact .head _) (.tail _), fun y hy => (List.mem_cons.mp hy).elim (fun e => e ▸ h1) (h2 y)⟩
theorem minL_eq {ns : List Int} {M : Int} (h1 : M ∈ ns) (h2 : ∀ y ∈ ns, M ≤ y) : M = minL ns := by
  have h : 0 < ns.length := List.length_pos_of_mem h1
  obtain ⟨a, b⟩ := minL_spec h
  exact Int.le_antisymm (h2 _ a) (b _ h1)

section
variable {c : Cf} {A : Around} {e : Env} {S : Heap → Prop} {H₀ H : Heap} {X : List Addr} {L a b l : Addr} {m : List (Str × Option Value)} {led : List (Addr × OP)} {ims : List (Value × PyData)} {Q : Value → Heap → Prop} {ns ms : List Int} {t u : Tok}
theorem e_min (ok : A.handled = none) (r : SrcI led ims l ns) (hn : 0 < ns.length) (q : ∀ t, Ent (St H₀ H X L m led ims) (Q (.int (minL ns) t))) : Ent (St H₀ H X L m led ims) (W c A (call (.builtin "min") [.ref l]) Q) := fun h s => by
  obtain ⟨vs, hl, hi⟩ := r.at_ s
  obtain ⟨xs, e⟩ := hi.allInts.items
  have hns : ns = xs.toList.map (·.1) := by rw [← hi.numsOf, ← nums_intItems, ← e]
  have hsz : 0 < xs.size := by
    have h3 := hn; rw [hns, List.length_map, Array.length_toList] at h3; exact h3
  rw [e] at hl
  refine ⟨fun tk g hg => min_intList ok hl hsz fun v h' tk hv hk => ?_⟩
  obtain ⟨t, rfl⟩ := intItems_at hv
  obtain ⟨h1, h2⟩ := argBest_lt (numAt xs) (xs.size - 1)
  rw [minL_eq (ns := ns) (M := numAt xs (argBest (fun i j => decide (numAt xs i < numAt xs j)) (xs.size - 1))) ?_ ?_]
  · exact Post.mk' hg (q t h' (s.grow hk))
  · rw [hns, numAt_eq]; exact getD_mem (by rw [List.length_map, Array.length_toList]; omega)
  · intro y hy
    rw [hns] at hy
    obtain ⟨j, hj, rfl⟩ := mem_getD hy
    rw [List.length_map, Array.length_toList] at hj
    rw [← numAt_eq]; exact h2 j (by omega)
theorem e_abs {i : Int} (q : ∀ t, Ent S (Q (.int (if i < 0 then -i else i) t))) : Ent S (W c A (call (.builtin "abs") [.int i t]) Q) := fun h s => ⟨fun tk g hg => call_abs_int fun u tk => Post.mk' hg (q u h s)⟩
theorem e_max {i j : Int} (ok : A.handled = none) (q : ∀ t, Ent (St H₀ H X L m led ims) (Q (.int (if j > i then j else i) t))) : Ent (St H₀ H X L m led ims) (W c A (call (.builtin "max") [.int i t, .int j u]) Q) :=
  fun h s => ⟨fun tk g hg => max_two_ints ok fun h' tk hk => by
    by_cases x : j > i
    · rw [if_pos x]; have := q u h' (s.grow hk); rw [if_pos x] at this; exact Post.mk' hg this
    · rw [if_neg x]; have := q t h' (s.grow hk); rw [if_neg x] at this; exact Post.mk' hg this⟩
theorem l_add (h1 : (a, IL ns) ∈ led) (h2 : (b, IL ms) ∈ led) (hz : ns.length + ms.length ≤ 1000) (q : ∀ x, Ent (St H₀ H X L m ((x, IL (ns ++ ms)) :: led) ims) (Q (.ref x))) : Ent (St H₀ H X L m led ims) (W c A (binaryOp .Add (.ref a) (.ref b)) Q) := fun h s => by
  obtain ⟨_, e1, vs, n, i1, rfl⟩ := s.at h1
  obtain ⟨_, e2, ws, k, i2, rfl⟩ := s.at h2
  refine ⟨fun tk g hg => PySem.P.add_list e1 e2 (Post.mk' hg (q _ _ (s.pushLed rfl ⟨vs ++ ws, 0, i1.append i2, by simp⟩))) (by simp only [List.size_toArray]; rw [i1.length, i2.length]; exact sz hz)⟩
theorem ia_rep {i : Int} {t : Tok} : ∀ n : Nat, IntsAre (List.replicate n (.int i t)) (List.replicate n i)
  | 0 => .nil
  | n + 1 => .cons _ _ (ia_rep n)
theorem l_mul8 {i : Int} (h1 : (a, IL [i]) ∈ led) (q : ∀ x, Ent (St H₀ H X L m ((x, IL (List.replicate 8 i)) :: led) ims) (Q (.ref x))) : Ent (St H₀ H X L m led ims) (W c A (binaryOp .Mult (.ref a) (.int 8 u)) Q) := fun h s => by
  obtain ⟨_, e1, vs, n, i1, rfl⟩ := s.at h1
  obtain ⟨t, rfl⟩ : ∃ t, vs = [.int i t] := by
    cases i1 with
    | cons _ t r => cases r; exact ⟨t, rfl⟩
  refine ⟨fun tk g hg => wpAny_binaryOp_repeat_ref (T := "list") (U := "int") (by decide) ⟨_, e1, rfl⟩ (fun s' => typeIs_int s' _ u) noFill_list_mul F.fills_int_mul F.slot_int_rmul repeat_list F.slot_int_index.lookup
    (call_meets F.slot_int_rmul (typeIs_int _ _ u) F.entry_int_rmul (F.args_int_rmul_2 _ _) (int___rmul___int_list _ u a _ n)
      ⟨e1, rfl, ⟨_, e1, rfl⟩, call_meets F.slot_list_mul ⟨_, e1, rfl⟩ F.entry_list_mul (F.args_list_mul_2 _ _)
        (AutoListH.list___mul___list_int_3 a _ n 8 u (by decide) (by simp) (by simp [Builtin.List.listTooLong, sizeLine])) ⟨e1, ?_⟩⟩)⟩
  exact Post.mk' hg (q _ _ (s.pushLed rfl ⟨List.replicate 8 (.int i t), 0, ia_rep 8, rfl⟩))
/-- an item of a list of ints that is read -/
theorem im_sub {k : Int} {ve se : Expr} (j : Nat) (r : SrcI led ims l ns) (hk : k = (j : Int) ∨ (k < 0 ∧ k + ns.length = (j : Int))) (h1 : j < ns.length) (hf : ns.length ≤ 1000) (q : ∀ t, Ent (St H₀ H X L m led ims) (Q (.int (ns.getD j 0) t)))
    (hs : subscripted se false (.ref l) (.int k t) = operate [.ref l, .int k t] (getItem (.ref l) (.int k t)) := by kernel_rfl) : Ent (St H₀ H X L m led ims) (W c A (subscriptTail ve se (.ref l) (.int k t)) Q) := fun h s => by
  obtain ⟨vs, hl, hi⟩ := r.at_ s
  obtain ⟨u, e⟩ := ia_get (d := 0) hi h1
  have hlen : vs.length = ns.length := hi.length
  refine ⟨fun tk g hg => tail_any (Heap.IsList.typeIs (s := Sh c h _ _) hl) slot_list_getitem.lookup ?_ hs⟩
  rcases hk with rfl | ⟨hk, hj⟩
  · exact wpAny_getItem_list hl (by omega) (by omega) (by simpa using e) (Post.mk' hg (q u h s))
  · refine wpAny_getItem_list_neg hl hk (by rw [List.size_toArray]; omega) (by omega) ?_ (Post.mk' hg (q u h s))
    rw [List.size_toArray, hlen, hj]; simpa using e
end
end
section
open PySem PySem.W PyProof.Rows PySem.Calls
/-! ## counting -/
def absI (i : Int) : Int := if i < 0 then -i else i
def cStep (ways r : List Int) : List Int := (List.range 8).map fun k => ways.getD k 0 + minL (r.map fun x => absI ((k : Int) - x))
def cEnds (ends r : List Int) : List Int := ends ++ [r.getD 0 0, r.getD (r.length - 1) 0]
def cRow (ways ends : List Int) : PyData :=
  .list [.int ((srt ends).getD ((ends.length - 1) / 2) 0), .int ((srt ends).getD (ends.length / 2) 0), .int (minL ways), k8 (fun k => ways.getD k 0 == minL ways), iDat (srt ends)]
def cWays (rws : List (List Int)) (i : Nat) : List Int := (rws.take i).foldl cStep (List.replicate 8 0)
def cEnd (rws : List (List Int)) (i : Nat) : List Int := (rws.take i).foldl cEnds []
/-- what the counting tells -/
def cTold (rws : List (List Int)) (n : Nat) : List PyData := (List.range n).map fun j => cRow (cWays rws (j + 1)) (cEnd rws (j + 1))
theorem cWays_succ {rws : List (List Int)} {i : Nat} (h : i < rws.length) : cWays rws (i + 1) = cStep (cWays rws i) rws[i] := by
  unfold cWays; rw [List.take_succ_eq_append_getElem h, List.foldl_append]; rfl
theorem cEnd_succ {rws : List (List Int)} {i : Nat} (h : i < rws.length) : cEnd rws (i + 1) = cEnds (cEnd rws i) rws[i] := by
  unfold cEnd; rw [List.take_succ_eq_append_getElem h, List.foldl_append]; rfl
theorem cEnd_len (rws : List (List Int)) : ∀ i, i ≤ rws.length → (cEnd rws i).length = 2 * i
  | 0, _ => rfl
  | i + 1, h => by rw [cEnd_succ (by omega), cEnds, List.length_append, cEnd_len rws i (by omega)]; rfl
theorem cWays_len (rws : List (List Int)) : ∀ i, i ≤ rws.length → (cWays rws i).length = 8
  | 0, _ => rfl
  | i + 1, h => by rw [cWays_succ (by omega), cStep, List.length_map, List.length_range]
theorem cTold_succ (rws : List (List Int)) (i : Nat) : cTold rws (i + 1) = cTold rws i ++ [cRow (cWays rws (i + 1)) (cEnd rws (i + 1))] := by
  unfold cTold; rw [List.range_succ, List.map_append]; rfl

/-! ## some of the ledger, in another order -/
inductive Rem {α : Type} (x : α) : List α → List α → Prop
  | head {l} : Rem x (x :: l) l
  | tail {y l l'} : Rem x l l' → Rem x (y :: l) (y :: l')
inductive Pick {α : Type} : List α → List α → Prop
  | sub {l r} : r.Sublist l → Pick l r
  | cons {x l l' r} : Rem x l l' → Pick l' r → Pick l (x :: r)
theorem Rem.perm {α : Type} {x : α} : ∀ {l l' : List α}, Rem x l l' → l.Perm (x :: l')
  | _, _, .head => .refl _
  | _, _, .tail (y := y) r => (r.perm.cons y).trans (.swap _ _ _)
section
variable {c : Cf} {A : Around} {e : Env} {H₀ H h : Heap} {X : List Addr} {L a ax : Addr} {m : List (Str × Option Value)} {led led' : List (Addr × OP)} {ims ims' : List (Value × PyData)} {T : Heap → Prop}
theorem Pick.subperm {α : Type} : ∀ {l r : List α}, Pick l r → ∃ k, l.Perm k ∧ r.Sublist k
  | _, _, .sub s => ⟨_, .refl _, s⟩
  | _, _, .cons (x := x) r p => by
    obtain ⟨k, h1, h2⟩ := p.subperm
    exact ⟨x :: k, r.perm.trans (h1.cons x), .cons_cons x h2⟩
theorem Ent.pick (k : Pick led led') (i : ∀ p ∈ ims', p ∈ ims) (x : Ent (St H₀ H X L m led' ims') T) : Ent (St H₀ H X L m led ims) T := fun h s => by
  obtain ⟨k, h1, h2⟩ := k.subperm
  exact x h ((s.perm h1).forget h2 i)
theorem e_iter {J : Addr → Heap → Prop} (ds : List PyData) (hm : (.ref ax, .list ds) ∈ ims) (q : ∀ I, Ent (St H₀ H X L m ((I, LI ax 0) :: led) ims) (J I)) : Ent (St H₀ H X L m led ims) (W c A (pyIter (.ref ax)) (itQ J)) := fun h s => by
  obtain ⟨as, r⟩ := s.read hm
  obtain ⟨o, vs, n, bs, h1, h2, h3, h4⟩ := reads_list r
  exact ⟨fun tk g hg => wpAny_pyIter_list ⟨o, h1, h2, n, h3⟩ (Post.mk' hg ⟨_, rfl, q _ _ (s.pushLed rfl ⟨rfl, rfl⟩)⟩)⟩
/-- the value read as a list is an address -/
theorem im_ref {v : Value} {ds : List PyData} (hm : (v, .list ds) ∈ ims) (q : ∀ a, v = .ref a → Ent (St H₀ H X L m led ims) T) : Ent (St H₀ H X L m led ims) T := fun h s => by
  obtain ⟨as, r⟩ := s.read hm
  cases r with
  | list => exact q _ rfl h s
end
end
section
open PySem PySem.W PyProof.Rows PySem.Calls
def patOk (h : Heap) (a : Addr) : Bool := match h.get? a with
  | some ⟨.type T, none, .fields fs, _⟩ => T == "re.Pattern" && (match fs.getD 5 .none with | .ref p => (match h.get? p with | some ⟨_, _, .seq vs _, _⟩ => decide (vs.map Builtin.Re.reRawOf = reCode) | _ => false) | _ => false)
    && Builtin.Re.reRawNat (fs.getD 6 .none) == 0 && Builtin.Re.reRawNat (fs.getD 2 .none) == 1
  | _ => false
def mapOk (h : Heap) (a : Addr) : Bool := match h.get? a with
  | some ⟨.type T, none, .dict es _, sl⟩ => T == "dict" && sl.isEmpty && es.toList.all fun e => match e.key with | .int i _ => decide (e.hash = hashInt i) && !(decide (97 ≤ i) && decide (i < 105)) | _ => false
  | _ => false
def hookOk (h : Heap) : Bool := h.isNs mainGlobals && (match h.nsMap mainGlobals "_twin_re_1" with | some (.ref a) => patOk h a | _ => false) &&
  (match h.nsMap mainGlobals "_special_chars_map" with | some (.ref a) => mapOk h a && !(a == sysModules) | _ => false)
abbrev MapSays (h : Heap) (d : Addr) : Prop := ∃ f : Int → Option Value, (∀ (prog : Program) (w : World), h.MapOf (intKind prog w) d f) ∧ (∀ k : Nat, 97 ≤ k → k < 105 → f k = none) ∧ (d == sysModules) = false
structure HookSays (h : Heap) : Prop where
  m : ∃ mg pat ptu scm, h.Ns mainGlobals mg ∧ mg "_twin_re_1" = some (.ref pat) ∧ mg "_special_chars_map" = some (.ref scm) ∧ PatIs h pat ptu ∧ MapSays h scm
theorem pat_of {h : Heap} {a : Addr} (x : patOk h a = true) : ∃ p, PatIs h a p := by
  unfold patOk at x
  split at x
  · rename_i T fs sl ho
    simp only [Bool.and_eq_true, beq_iff_eq] at x
    obtain ⟨⟨⟨x1, x2⟩, x3⟩, x4⟩ := x
    split at x2
    · rename_i p hp
      split at x2
      · rename_i vs n sl2 ho2
        exact ⟨p, ⟨_, fs, ho, by rw [x1], rfl, rfl, hp, x3, x4⟩, ⟨_, vs, n, ho2, rfl, of_decide_eq_true x2⟩⟩
      · cases x2
    · cases x2
  · cases x
theorem findBy_none {es : Array DictEntry} {k : Int} (x : ∀ e ∈ es, Value.isInt k e.key = false) : findBy Value.isInt es k = none := by
  unfold findBy
  cases hf : es.find? (fun e => Value.isInt k e.key) with
  | none => rfl
  | some e =>
    have h1 := Array.mem_of_find?_eq_some hf
    have h2 := Array.find?_some hf
    rw [x e h1] at h2; cases h2
theorem map_of {h : Heap} {a : Addr} (x : mapOk h a = true) (n : (a == sysModules) = false) : MapSays h a := by
  unfold mapOk at x
  split at x
  · rename_i T es ep sl ho
    simp only [Bool.and_eq_true, beq_iff_eq, Array.isEmpty_iff, List.all_eq_true] at x
    obtain ⟨⟨x1, x2⟩, x3⟩ := x
    subst x1 x2
    have key : ∀ e ∈ es, ∃ i t, e.key = .int i t ∧ e.hash = hashInt i ∧ ¬ (97 ≤ i ∧ i < 105) := fun e he => by
      have := x3 e (Array.mem_toList_iff.mpr he)
      split at this
      · rename_i i t hk
        simp only [Bool.and_eq_true, decide_eq_true_eq, Bool.not_eq_true', Bool.and_eq_false_iff, decide_eq_false_iff_not] at this
        exact ⟨i, t, hk, this.1, by omega⟩
      · cases this
    refine ⟨fun k => findBy Value.isInt es k, fun prog w => ⟨_, es, ep, ho, ⟨rfl, rfl, rfl⟩, rfl, fun e he => ?_, fun k => rfl⟩, fun k h1 h2 => ?_, n⟩
    · obtain ⟨i, t, hk, hh, _⟩ := key e he
      exact ⟨i, by rw [hk]; exact intKind_is prog w i t, hh⟩
    · refine findBy_none fun e he => ?_
      obtain ⟨i, t, hk, _, hn⟩ := key e he
      rw [hk]
      show Value.isInt (k : Int) (.int i t) = false
      simp [Value.isInt]
      omega
  · cases x
def hk : Hook where
  α := Bool
  obs := fun s => hookOk s.heap
  val := fun _ => true
  says := fun _ h => HookSays h
  of := fun w s x => by
    have x : hookOk s.heap = true := x
    unfold hookOk at x
    simp only [Bool.and_eq_true] at x
    obtain ⟨⟨x1, x2⟩, x3⟩ := x
    split at x2
    · rename_i a ha
      split at x3
      · rename_i b hb
        simp only [Bool.and_eq_true, Bool.not_eq_true'] at x3
        obtain ⟨p, hp⟩ := pat_of x2
        exact ⟨_, a, p, b, Heap.Ns.of_isNs x1, ha, hb, hp, map_of x3.1 x3.2⟩
      · cases x3
    · cases x2
  keeps := fun w h h' x k => by
    obtain ⟨mg, pat, ptu, scm, h1, h2, h3, h4, f, m1, m2, m3⟩ := x.m
    exact ⟨mg, pat, ptu, scm, h1.keeps k, h2, h3, h4.keeps k, f, fun prog w => let ⟨o, es, ep, a, r⟩ := m1 prog w; ⟨o, es, ep, k _ _ a, r⟩, m2, m3⟩
end
section
open PySem PySem.W PyProof.Rows PySem.Calls
/-! ## the states at the borders of the top's statements (printed by a program) -/
noncomputable abbrev tpP : Program := PySem.Challenge.rw_rx0039_01.row.prog
/-- a def's record, as its code keeps it -/
noncomputable abbrev fdr (k : Nat) : FuncData := { name := sname (stm k), qualname := sname (stm k), params := sparams (stm k), body := .stmts (sbody (stm k)), scope := sscope (stm k), globals := 0, closure := [], defaults := .none, kwdefaults := .none, builtins := 0 }
noncomputable abbrev obA0 (P : Params) : Obj := (@PySem.Obj.mk (@PySem.Value.type "dict") none (@PySem.Data.dict (List.toArray [(@PySem.DictEntry.mk (@PySem.PyData.keyHash P (Str.ofString "__name__")) (@PySem.Value.str (Str.ofString "__name__") 1) (@PySem.Value.str (Str.ofString "builtins") 160)), (@PySem.DictEntry.mk (@PySem.PyData.keyHash P (Str.ofString "__doc__")) (@PySem.Value.str (Str.ofString "__doc__") 2) (@PySem.Value.builtin "builtins.__doc__:str#opaque")), (@PySem.DictEntry.mk (@PySem.PyData.keyHash P (Str.ofString "__package__")) (@PySem.Value.str (Str.ofString "__package__") 3) (@PySem.Value.builtin "builtins.__package__:str#opaque")), (@PySem.DictEntry.mk (@PySem.PyData.keyHash P (Str.ofString "__loader__")) (@PySem.Value.str (Str.ofString "__loader__") 4) (@PySem.Value.builtin "builtins.__loader__:shared#opaque")), (@PySem.DictEntry.mk (@PySem.PyData.keyHash P (Str.ofString "__spec__")) (@PySem.Value.str (Str.ofString "__spec__") 5) (@PySem.Value.builtin "builtins.__spec__#opaque")), (@PySem.DictEntry.mk (@PySem.PyData.keyHash P (Str.ofString "__build_class__")) (@PySem.Value.str (Str.ofString "__build_class__") 6) (@PySem.Value.builtin "__build_class__")), (@PySem.DictEntry.mk (@PySem.PyData.keyHash P (Str.mk (List.toArray [95, 95, 105, 109, 112, 111, 114, 116, 95, 95]))) (@PySem.Value.str (Str.mk (List.toArray [95, 95, 105, 109, 112, 111, 114, 116, 95, 95])) 7) (@PySem.Value.builtin "__import__")), (@PySem.DictEntry.mk (@PySem.PyData.keyHash P (Str.ofString "abs")) (@PySem.Value.str (Str.ofString "abs") 8) (@PySem.Value.builtin "abs")), (@PySem.DictEntry.mk (@PySem.PyData.keyHash P (Str.ofString "all")) (@PySem.Value.str (Str.ofString "all") 9) (@PySem.Value.builtin "all")), (@PySem.DictEntry.mk (@PySem.PyData.keyHash P (Str.ofString "any")) (@PySem.Value.str (Str.ofString "any") 10) (@PySem.Value.builtin "any")), (@PySem.DictEntry.mk (@PySem.PyData.keyHash P (Str.ofString "ascii")) (@PySem.Value.str (Str.ofString "ascii") 11) (@PySem.Value.builtin "ascii")), (@PySem.DictEntry.mk (@PySem.PyData.keyHash P (Str.ofString "bin")) (@PySem.Value.str (Str.ofString "bin") 12) (@PySem.Value.builtin "bin")), (@PySem.DictEntry.mk (@PySem.PyData.keyHash P (Str.ofString "breakpoint")) (@PySem.Value.str (Str.ofString "breakpoint") 13) (@PySem.Value.builtin "breakpoint")), (@PySem.DictEntry.mk (@PySem.PyData.keyHash P (Str.ofString "callable")) (@PySem.Value.str (Str.ofString "callable") 14) (@PySem.Value.builtin "callable")), (@PySem.DictEntry.mk (@PySem.PyData.keyHash P (Str.ofString "chr")) (@PySem.Value.str (Str.ofString "chr") 15) (@PySem.Value.builtin "chr")), (@PySem.DictEntry.mk (@PySem.PyData.keyHash P (Str.ofString "compile")) (@PySem.Value.str (Str.ofString "compile") 16) (@PySem.Value.builtin "compile")), (@PySem.DictEntry.mk (@PySem.PyData.keyHash P (Str.ofString "delattr")) (@PySem.Value.str (Str.ofString "delattr") 17) (@PySem.Value.builtin "delattr")), (@PySem.DictEntry.mk (@PySem.PyData.keyHash P (Str.ofString "dir")) (@PySem.Value.str (Str.ofString "dir") 18) (@PySem.Value.builtin "dir")), (@PySem.DictEntry.mk (@PySem.PyData.keyHash P (Str.ofString "divmod")) (@PySem.Value.str (Str.ofString "divmod") 19) (@PySem.Value.builtin "divmod")), (@PySem.DictEntry.mk (@PySem.PyData.keyHash P (Str.ofString "eval")) (@PySem.Value.str (Str.ofString "eval") 20) (@PySem.Value.builtin "eval")), (@PySem.DictEntry.mk (@PySem.PyData.keyHash P (Str.ofString "exec")) (@PySem.Value.str (Str.ofString "exec") 21) (@PySem.Value.builtin "exec")), (@PySem.DictEntry.mk (@PySem.PyData.keyHash P (Str.ofString "format")) (@PySem.Value.str (Str.ofString "format") 22) (@PySem.Value.builtin "format")), (@PySem.DictEntry.mk (@PySem.PyData.keyHash P (Str.ofString "getattr")) (@PySem.Value.str (Str.ofString "getattr") 23) (@PySem.Value.builtin "getattr")), (@PySem.DictEntry.mk (@PySem.PyData.keyHash P (Str.ofString "globals")) (@PySem.Value.str (Str.ofString "globals") 24) (@PySem.Value.builtin "globals")), (@PySem.DictEntry.mk (@PySem.PyData.keyHash P (Str.ofString "hasattr")) (@PySem.Value.str (Str.ofString "hasattr") 25) (@PySem.Value.builtin "hasattr")), (@PySem.DictEntry.mk (@PySem.PyData.keyHash P (Str.ofString "hash")) (@PySem.Value.str (Str.ofString "hash") 26) (@PySem.Value.builtin "hash")), (@PySem.DictEntry.mk (@PySem.PyData.keyHash P (Str.ofString "hex")) (@PySem.Value.str (Str.ofString "hex") 27) (@PySem.Value.builtin "hex")), (@PySem.DictEntry.mk (@PySem.PyData.keyHash P (Str.ofString "id")) (@PySem.Value.str (Str.ofString "id") 28) (@PySem.Value.builtin "id")), (@PySem.DictEntry.mk (@PySem.PyData.keyHash P (Str.ofString "input")) (@PySem.Value.str (Str.ofString "input") 29) (@PySem.Value.builtin "input")), (@PySem.DictEntry.mk (@PySem.PyData.keyHash P (Str.ofString "isinstance")) (@PySem.Value.str (Str.ofString "isinstance") 30) (@PySem.Value.builtin "isinstance")), (@PySem.DictEntry.mk (@PySem.PyData.keyHash P (Str.ofString "issubclass")) (@PySem.Value.str (Str.ofString "issubclass") 31) (@PySem.Value.builtin "issubclass")), (@PySem.DictEntry.mk (@PySem.PyData.keyHash P (Str.ofString "iter")) (@PySem.Value.str (Str.ofString "iter") 32) (@PySem.Value.builtin "iter")), (@PySem.DictEntry.mk (@PySem.PyData.keyHash P (Str.ofString "aiter")) (@PySem.Value.str (Str.ofString "aiter") 33) (@PySem.Value.builtin "aiter")), (@PySem.DictEntry.mk (@PySem.PyData.keyHash P (Str.ofString "len")) (@PySem.Value.str (Str.ofString "len") 34) (@PySem.Value.builtin "len")), (@PySem.DictEntry.mk (@PySem.PyData.keyHash P (Str.ofString "locals")) (@PySem.Value.str (Str.ofString "locals") 35) (@PySem.Value.builtin "locals")), (@PySem.DictEntry.mk (@PySem.PyData.keyHash P (Str.ofString "max")) (@PySem.Value.str (Str.ofString "max") 36) (@PySem.Value.builtin "max")), (@PySem.DictEntry.mk (@PySem.PyData.keyHash P (Str.ofString "min")) (@PySem.Value.str (Str.ofString "min") 37) (@PySem.Value.builtin "min")), (@PySem.DictEntry.mk (@PySem.PyData.keyHash P (Str.ofString "next")) (@PySem.Value.str (Str.ofString "next") 38) (@PySem.Value.builtin "next")), (@PySem.DictEntry.mk (@PySem.PyData.keyHash P (Str.ofString "anext")) (@PySem.Value.str (Str.ofString "anext") 39) (@PySem.Value.builtin "anext")), (@PySem.DictEntry.mk (@PySem.PyData.keyHash P (Str.ofString "oct")) (@PySem.Value.str (Str.ofString "oct") 40) (@PySem.Value.builtin "oct")), (@PySem.DictEntry.mk (@PySem.PyData.keyHash P (Str.ofString "ord")) (@PySem.Value.str (Str.ofString "ord") 41) (@PySem.Value.builtin "ord")), (@PySem.DictEntry.mk (@PySem.PyData.keyHash P (Str.ofString "pow")) (@PySem.Value.str (Str.ofString "pow") 42) (@PySem.Value.builtin "pow")), (@PySem.DictEntry.mk (@PySem.PyData.keyHash P (Str.ofString "print")) (@PySem.Value.str (Str.ofString "print") 43) (@PySem.Value.builtin "print")), (@PySem.DictEntry.mk (@PySem.PyData.keyHash P (Str.ofString "repr")) (@PySem.Value.str (Str.ofString "repr") 44) (@PySem.Value.builtin "repr")), (@PySem.DictEntry.mk (@PySem.PyData.keyHash P (Str.ofString "round")) (@PySem.Value.str (Str.ofString "round") 45) (@PySem.Value.builtin "round")), (@PySem.DictEntry.mk (@PySem.PyData.keyHash P (Str.ofString "setattr")) (@PySem.Value.str (Str.ofString "setattr") 46) (@PySem.Value.builtin "setattr")), (@PySem.DictEntry.mk (@PySem.PyData.keyHash P (Str.ofString "sorted")) (@PySem.Value.str (Str.ofString "sorted") 47) (@PySem.Value.builtin "sorted")), (@PySem.DictEntry.mk (@PySem.PyData.keyHash P (Str.ofString "sum")) (@PySem.Value.str (Str.ofString "sum") 48) (@PySem.Value.builtin "sum")), (@PySem.DictEntry.mk (@PySem.PyData.keyHash P (Str.ofString "vars")) (@PySem.Value.str (Str.ofString "vars") 49) (@PySem.Value.builtin "vars")), (@PySem.DictEntry.mk (@PySem.PyData.keyHash P (Str.ofString "None")) (@PySem.Value.str (Str.ofString "None") 50) @PySem.Value.none), (@PySem.DictEntry.mk (@PySem.PyData.keyHash P (Str.ofString "Ellipsis")) (@PySem.Value.str (Str.ofString "Ellipsis") 51) @PySem.Value.ellipsis), (@PySem.DictEntry.mk (@PySem.PyData.keyHash P (Str.ofString "NotImplemented")) (@PySem.Value.str (Str.ofString "NotImplemented") 52) @PySem.Value.notImplemented), (@PySem.DictEntry.mk (@PySem.PyData.keyHash P (Str.ofString "False")) (@PySem.Value.str (Str.ofString "False") 53) (@PySem.Value.bool @Bool.false)), (@PySem.DictEntry.mk (@PySem.PyData.keyHash P (Str.ofString "True")) (@PySem.Value.str (Str.ofString "True") 54) (@PySem.Value.bool @Bool.true)), (@PySem.DictEntry.mk (@PySem.PyData.keyHash P (Str.ofString "bool")) (@PySem.Value.str (Str.ofString "bool") 55) (@PySem.Value.type "bool")), (@PySem.DictEntry.mk (@PySem.PyData.keyHash P (Str.ofString "memoryview")) (@PySem.Value.str (Str.ofString "memoryview") 56) (@PySem.Value.type "memoryview")), (@PySem.DictEntry.mk (@PySem.PyData.keyHash P (Str.ofString "bytearray")) (@PySem.Value.str (Str.ofString "bytearray") 57) (@PySem.Value.type "bytearray")), (@PySem.DictEntry.mk (@PySem.PyData.keyHash P (Str.ofString "bytes")) (@PySem.Value.str (Str.ofString "bytes") 58) (@PySem.Value.type "bytes")), (@PySem.DictEntry.mk (@PySem.PyData.keyHash P (Str.ofString "classmethod")) (@PySem.Value.str (Str.ofString "classmethod") 59) (@PySem.Value.type "classmethod")), (@PySem.DictEntry.mk (@PySem.PyData.keyHash P (Str.ofString "complex")) (@PySem.Value.str (Str.ofString "complex") 60) (@PySem.Value.type "complex")), (@PySem.DictEntry.mk (@PySem.PyData.keyHash P (Str.ofString "dict")) (@PySem.Value.str (Str.ofString "dict") 61) (@PySem.Value.type "dict")), (@PySem.DictEntry.mk (@PySem.PyData.keyHash P (Str.ofString "enumerate")) (@PySem.Value.str (Str.ofString "enumerate") 62) (@PySem.Value.type "enumerate")), (@PySem.DictEntry.mk (@PySem.PyData.keyHash P (Str.ofString "filter")) (@PySem.Value.str (Str.ofString "filter") 63) (@PySem.Value.type "filter")), (@PySem.DictEntry.mk (@PySem.PyData.keyHash P (Str.ofString "float")) (@PySem.Value.str (Str.ofString "float") 64) (@PySem.Value.type "float")), (@PySem.DictEntry.mk (@PySem.PyData.keyHash P (Str.ofString "frozenset")) (@PySem.Value.str (Str.ofString "frozenset") 65) (@PySem.Value.type "frozenset")), (@PySem.DictEntry.mk (@PySem.PyData.keyHash P (Str.ofString "property")) (@PySem.Value.str (Str.ofString "property") 66) (@PySem.Value.type "property")), (@PySem.DictEntry.mk (@PySem.PyData.keyHash P (Str.ofString "int")) (@PySem.Value.str (Str.ofString "int") 67) (@PySem.Value.type "int")), (@PySem.DictEntry.mk (@PySem.PyData.keyHash P (Str.ofString "list")) (@PySem.Value.str (Str.ofString "list") 68) (@PySem.Value.type "list")), (@PySem.DictEntry.mk (@PySem.PyData.keyHash P (Str.ofString "map")) (@PySem.Value.str (Str.ofString "map") 69) (@PySem.Value.type "map")), (@PySem.DictEntry.mk (@PySem.PyData.keyHash P (Str.ofString "object")) (@PySem.Value.str (Str.ofString "object") 70) (@PySem.Value.type "object")), (@PySem.DictEntry.mk (@PySem.PyData.keyHash P (Str.ofString "range")) (@PySem.Value.str (Str.ofString "range") 71) (@PySem.Value.type "range")), (@PySem.DictEntry.mk (@PySem.PyData.keyHash P (Str.ofString "reversed")) (@PySem.Value.str (Str.ofString "reversed") 72) (@PySem.Value.type "reversed")), (@PySem.DictEntry.mk (@PySem.PyData.keyHash P (Str.ofString "set")) (@PySem.Value.str (Str.ofString "set") 73) (@PySem.Value.type "set")), (@PySem.DictEntry.mk (@PySem.PyData.keyHash P (Str.ofString "slice")) (@PySem.Value.str (Str.ofString "slice") 74) (@PySem.Value.type "slice")), (@PySem.DictEntry.mk (@PySem.PyData.keyHash P (Str.ofString "staticmethod")) (@PySem.Value.str (Str.ofString "staticmethod") 75) (@PySem.Value.type "staticmethod")), (@PySem.DictEntry.mk (@PySem.PyData.keyHash P (Str.ofString "str")) (@PySem.Value.str (Str.ofString "str") 76) (@PySem.Value.type "str")), (@PySem.DictEntry.mk (@PySem.PyData.keyHash P (Str.ofString "super")) (@PySem.Value.str (Str.ofString "super") 77) (@PySem.Value.type "super")), (@PySem.DictEntry.mk (@PySem.PyData.keyHash P (Str.ofString "tuple")) (@PySem.Value.str (Str.ofString "tuple") 78) (@PySem.Value.type "tuple")), (@PySem.DictEntry.mk (@PySem.PyData.keyHash P (Str.ofString "type")) (@PySem.Value.str (Str.ofString "type") 79) (@PySem.Value.type "type")), (@PySem.DictEntry.mk (@PySem.PyData.keyHash P (Str.ofString "zip")) (@PySem.Value.str (Str.ofString "zip") 80) (@PySem.Value.type "zip")), (@PySem.DictEntry.mk (@PySem.PyData.keyHash P (Str.ofString "__debug__")) (@PySem.Value.str (Str.ofString "__debug__") 81) (@PySem.Value.bool @Bool.true)), (@PySem.DictEntry.mk (@PySem.PyData.keyHash P (Str.ofString "BaseException")) (@PySem.Value.str (Str.ofString "BaseException") 82) (@PySem.Value.type "BaseException")), (@PySem.DictEntry.mk (@PySem.PyData.keyHash P (Str.ofString "BaseExceptionGroup")) (@PySem.Value.str (Str.ofString "BaseExceptionGroup") 83) (@PySem.Value.type "BaseExceptionGroup")), (@PySem.DictEntry.mk (@PySem.PyData.keyHash P (Str.ofString "Exception")) (@PySem.Value.str (Str.ofString "Exception") 84) (@PySem.Value.type "Exception")), (@PySem.DictEntry.mk (@PySem.PyData.keyHash P (Str.ofString "GeneratorExit")) (@PySem.Value.str (Str.ofString "GeneratorExit") 85) (@PySem.Value.type "GeneratorExit")), (@PySem.DictEntry.mk (@PySem.PyData.keyHash P (Str.ofString "KeyboardInterrupt")) (@PySem.Value.str (Str.ofString "KeyboardInterrupt") 86) (@PySem.Value.type "KeyboardInterrupt")), (@PySem.DictEntry.mk (@PySem.PyData.keyHash P (Str.ofString "SystemExit")) (@PySem.Value.str (Str.ofString "SystemExit") 87) (@PySem.Value.type "SystemExit")), (@PySem.DictEntry.mk (@PySem.PyData.keyHash P (Str.ofString "ArithmeticError")) (@PySem.Value.str (Str.ofString "ArithmeticError") 88) (@PySem.Value.type "ArithmeticError")), (@PySem.DictEntry.mk (@PySem.PyData.keyHash P (Str.ofString "AssertionError")) (@PySem.Value.str (Str.ofString "AssertionError") 89) (@PySem.Value.type "AssertionError")), (@PySem.DictEntry.mk (@PySem.PyData.keyHash P (Str.ofString "AttributeError")) (@PySem.Value.str (Str.ofString "AttributeError") 90) (@PySem.Value.type "AttributeError")), (@PySem.DictEntry.mk (@PySem.PyData.keyHash P (Str.ofString "BufferError")) (@PySem.Value.str (Str.ofString "BufferError") 91) (@PySem.Value.type "BufferError")), (@PySem.DictEntry.mk (@PySem.PyData.keyHash P (Str.ofString "EOFError")) (@PySem.Value.str (Str.ofString "EOFError") 92) (@PySem.Value.type "EOFError")), (@PySem.DictEntry.mk (@PySem.PyData.keyHash P (Str.ofString "ImportError")) (@PySem.Value.str (Str.ofString "ImportError") 93) (@PySem.Value.type "ImportError")), (@PySem.DictEntry.mk (@PySem.PyData.keyHash P (Str.ofString "LookupError")) (@PySem.Value.str (Str.ofString "LookupError") 94) (@PySem.Value.type "LookupError")), (@PySem.DictEntry.mk (@PySem.PyData.keyHash P (Str.ofString "MemoryError")) (@PySem.Value.str (Str.ofString "MemoryError") 95) (@PySem.Value.type "MemoryError")), (@PySem.DictEntry.mk (@PySem.PyData.keyHash P (Str.ofString "NameError")) (@PySem.Value.str (Str.ofString "NameError") 96) (@PySem.Value.type "NameError")), (@PySem.DictEntry.mk (@PySem.PyData.keyHash P (Str.ofString "OSError")) (@PySem.Value.str (Str.ofString "OSError") 97) (@PySem.Value.type "OSError")), (@PySem.DictEntry.mk (@PySem.PyData.keyHash P (Str.ofString "ReferenceError")) (@PySem.Value.str (Str.ofString "ReferenceError") 98) (@PySem.Value.type "ReferenceError")), (@PySem.DictEntry.mk (@PySem.PyData.keyHash P (Str.ofString "RuntimeError")) (@PySem.Value.str (Str.ofString "RuntimeError") 99) (@PySem.Value.type "RuntimeError")), (@PySem.DictEntry.mk (@PySem.PyData.keyHash P (Str.ofString "StopAsyncIteration")) (@PySem.Value.str (Str.ofString "StopAsyncIteration") 100) (@PySem.Value.type "StopAsyncIteration")), (@PySem.DictEntry.mk (@PySem.PyData.keyHash P (Str.ofString "StopIteration")) (@PySem.Value.str (Str.ofString "StopIteration") 101) (@PySem.Value.type "StopIteration")), (@PySem.DictEntry.mk (@PySem.PyData.keyHash P (Str.ofString "SyntaxError")) (@PySem.Value.str (Str.ofString "SyntaxError") 102) (@PySem.Value.type "SyntaxError")), (@PySem.DictEntry.mk (@PySem.PyData.keyHash P (Str.ofString "SystemError")) (@PySem.Value.str (Str.ofString "SystemError") 103) (@PySem.Value.type "SystemError")), (@PySem.DictEntry.mk (@PySem.PyData.keyHash P (Str.ofString "TypeError")) (@PySem.Value.str (Str.ofString "TypeError") 104) (@PySem.Value.type "TypeError")), (@PySem.DictEntry.mk (@PySem.PyData.keyHash P (Str.ofString "ValueError")) (@PySem.Value.str (Str.ofString "ValueError") 105) (@PySem.Value.type "ValueError")), (@PySem.DictEntry.mk (@PySem.PyData.keyHash P (Str.ofString "Warning")) (@PySem.Value.str (Str.ofString "Warning") 106) (@PySem.Value.type "Warning")), (@PySem.DictEntry.mk (@PySem.PyData.keyHash P (Str.ofString "FloatingPointError")) (@PySem.Value.str (Str.ofString "FloatingPointError") 107) (@PySem.Value.type "FloatingPointError")), (@PySem.DictEntry.mk (@PySem.PyData.keyHash P (Str.ofString "OverflowError")) (@PySem.Value.str (Str.ofString "OverflowError") 108) (@PySem.Value.type "OverflowError")), (@PySem.DictEntry.mk (@PySem.PyData.keyHash P (Str.ofString "ZeroDivisionError")) (@PySem.Value.str (Str.ofString "ZeroDivisionError") 109) (@PySem.Value.type "ZeroDivisionError")), (@PySem.DictEntry.mk (@PySem.PyData.keyHash P (Str.ofString "BytesWarning")) (@PySem.Value.str (Str.ofString "BytesWarning") 110) (@PySem.Value.type "BytesWarning")), (@PySem.DictEntry.mk (@PySem.PyData.keyHash P (Str.ofString "DeprecationWarning")) (@PySem.Value.str (Str.ofString "DeprecationWarning") 111) (@PySem.Value.type "DeprecationWarning")), (@PySem.DictEntry.mk (@PySem.PyData.keyHash P (Str.ofString "EncodingWarning")) (@PySem.Value.str (Str.ofString "EncodingWarning") 112) (@PySem.Value.type "EncodingWarning")), (@PySem.DictEntry.mk (@PySem.PyData.keyHash P (Str.ofString "FutureWarning")) (@PySem.Value.str (Str.ofString "FutureWarning") 113) (@PySem.Value.type "FutureWarning")), (@PySem.DictEntry.mk (@PySem.PyData.keyHash P (Str.ofString "ImportWarning")) (@PySem.Value.str (Str.ofString "ImportWarning") 114) (@PySem.Value.type "ImportWarning")), (@PySem.DictEntry.mk (@PySem.PyData.keyHash P (Str.ofString "PendingDeprecationWarning")) (@PySem.Value.str (Str.ofString "PendingDeprecationWarning") 115) (@PySem.Value.type "PendingDeprecationWarning")), (@PySem.DictEntry.mk (@PySem.PyData.keyHash P (Str.ofString "ResourceWarning")) (@PySem.Value.str (Str.ofString "ResourceWarning") 116) (@PySem.Value.type "ResourceWarning")), (@PySem.DictEntry.mk (@PySem.PyData.keyHash P (Str.ofString "RuntimeWarning")) (@PySem.Value.str (Str.ofString "RuntimeWarning") 117) (@PySem.Value.type "RuntimeWarning")), (@PySem.DictEntry.mk (@PySem.PyData.keyHash P (Str.ofString "SyntaxWarning")) (@PySem.Value.str (Str.ofString "SyntaxWarning") 118) (@PySem.Value.type "SyntaxWarning")), (@PySem.DictEntry.mk (@PySem.PyData.keyHash P (Str.ofString "UnicodeWarning")) (@PySem.Value.str (Str.ofString "UnicodeWarning") 119) (@PySem.Value.type "UnicodeWarning")), (@PySem.DictEntry.mk (@PySem.PyData.keyHash P (Str.ofString "UserWarning")) (@PySem.Value.str (Str.ofString "UserWarning") 120) (@PySem.Value.type "UserWarning")), (@PySem.DictEntry.mk (@PySem.PyData.keyHash P (Str.ofString "BlockingIOError")) (@PySem.Value.str (Str.ofString "BlockingIOError") 121) (@PySem.Value.type "BlockingIOError")), (@PySem.DictEntry.mk (@PySem.PyData.keyHash P (Str.ofString "ChildProcessError")) (@PySem.Value.str (Str.ofString "ChildProcessError") 122) (@PySem.Value.type "ChildProcessError")), (@PySem.DictEntry.mk (@PySem.PyData.keyHash P (Str.ofString "ConnectionError")) (@PySem.Value.str (Str.ofString "ConnectionError") 123) (@PySem.Value.type "ConnectionError")), (@PySem.DictEntry.mk (@PySem.PyData.keyHash P (Str.ofString "FileExistsError")) (@PySem.Value.str (Str.ofString "FileExistsError") 124) (@PySem.Value.type "FileExistsError")), (@PySem.DictEntry.mk (@PySem.PyData.keyHash P (Str.ofString "FileNotFoundError")) (@PySem.Value.str (Str.ofString "FileNotFoundError") 125) (@PySem.Value.type "FileNotFoundError")), (@PySem.DictEntry.mk (@PySem.PyData.keyHash P (Str.ofString "InterruptedError")) (@PySem.Value.str (Str.ofString "InterruptedError") 126) (@PySem.Value.type "InterruptedError")), (@PySem.DictEntry.mk (@PySem.PyData.keyHash P (Str.ofString "IsADirectoryError")) (@PySem.Value.str (Str.ofString "IsADirectoryError") 127) (@PySem.Value.type "IsADirectoryError")), (@PySem.DictEntry.mk (@PySem.PyData.keyHash P (Str.ofString "NotADirectoryError")) (@PySem.Value.str (Str.ofString "NotADirectoryError") 128) (@PySem.Value.type "NotADirectoryError")), (@PySem.DictEntry.mk (@PySem.PyData.keyHash P (Str.ofString "PermissionError")) (@PySem.Value.str (Str.ofString "PermissionError") 129) (@PySem.Value.type "PermissionError")), (@PySem.DictEntry.mk (@PySem.PyData.keyHash P (Str.ofString "ProcessLookupError")) (@PySem.Value.str (Str.ofString "ProcessLookupError") 130) (@PySem.Value.type "ProcessLookupError")), (@PySem.DictEntry.mk (@PySem.PyData.keyHash P (Str.ofString "TimeoutError")) (@PySem.Value.str (Str.ofString "TimeoutError") 131) (@PySem.Value.type "TimeoutError")), (@PySem.DictEntry.mk (@PySem.PyData.keyHash P (Str.ofString "IndentationError")) (@PySem.Value.str (Str.ofString "IndentationError") 132) (@PySem.Value.type "IndentationError")), (@PySem.DictEntry.mk (@PySem.PyData.keyHash P (Str.ofString "_IncompleteInputError")) (@PySem.Value.str (Str.ofString "_IncompleteInputError") 133) (@PySem.Value.type "_IncompleteInputError")), (@PySem.DictEntry.mk (@PySem.PyData.keyHash P (Str.ofString "IndexError")) (@PySem.Value.str (Str.ofString "IndexError") 134) (@PySem.Value.type "IndexError")), (@PySem.DictEntry.mk (@PySem.PyData.keyHash P (Str.ofString "KeyError")) (@PySem.Value.str (Str.ofString "KeyError") 135) (@PySem.Value.type "KeyError")), (@PySem.DictEntry.mk (@PySem.PyData.keyHash P (Str.ofString "ModuleNotFoundError")) (@PySem.Value.str (Str.ofString "ModuleNotFoundError") 136) (@PySem.Value.type "ModuleNotFoundError")), (@PySem.DictEntry.mk (@PySem.PyData.keyHash P (Str.ofString "NotImplementedError")) (@PySem.Value.str (Str.ofString "NotImplementedError") 137) (@PySem.Value.type "NotImplementedError")), (@PySem.DictEntry.mk (@PySem.PyData.keyHash P (Str.ofString "PythonFinalizationError")) (@PySem.Value.str (Str.ofString "PythonFinalizationError") 138) (@PySem.Value.type "PythonFinalizationError")), (@PySem.DictEntry.mk (@PySem.PyData.keyHash P (Str.ofString "RecursionError")) (@PySem.Value.str (Str.ofString "RecursionError") 139) (@PySem.Value.type "RecursionError")), (@PySem.DictEntry.mk (@PySem.PyData.keyHash P (Str.ofString "UnboundLocalError")) (@PySem.Value.str (Str.ofString "UnboundLocalError") 140) (@PySem.Value.type "UnboundLocalError")), (@PySem.DictEntry.mk (@PySem.PyData.keyHash P (Str.ofString "UnicodeError")) (@PySem.Value.str (Str.ofString "UnicodeError") 141) (@PySem.Value.type "UnicodeError")), (@PySem.DictEntry.mk (@PySem.PyData.keyHash P (Str.ofString "BrokenPipeError")) (@PySem.Value.str (Str.ofString "BrokenPipeError") 142) (@PySem.Value.type "BrokenPipeError")), (@PySem.DictEntry.mk (@PySem.PyData.keyHash P (Str.ofString "ConnectionAbortedError")) (@PySem.Value.str (Str.ofString "ConnectionAbortedError") 143) (@PySem.Value.type "ConnectionAbortedError")), (@PySem.DictEntry.mk (@PySem.PyData.keyHash P (Str.ofString "ConnectionRefusedError")) (@PySem.Value.str (Str.ofString "ConnectionRefusedError") 144) (@PySem.Value.type "ConnectionRefusedError")), (@PySem.DictEntry.mk (@PySem.PyData.keyHash P (Str.ofString "ConnectionResetError")) (@PySem.Value.str (Str.ofString "ConnectionResetError") 145) (@PySem.Value.type "ConnectionResetError")), (@PySem.DictEntry.mk (@PySem.PyData.keyHash P (Str.ofString "TabError")) (@PySem.Value.str (Str.ofString "TabError") 146) (@PySem.Value.type "TabError")), (@PySem.DictEntry.mk (@PySem.PyData.keyHash P (Str.ofString "UnicodeDecodeError")) (@PySem.Value.str (Str.ofString "UnicodeDecodeError") 147) (@PySem.Value.type "UnicodeDecodeError")), (@PySem.DictEntry.mk (@PySem.PyData.keyHash P (Str.ofString "UnicodeEncodeError")) (@PySem.Value.str (Str.ofString "UnicodeEncodeError") 148) (@PySem.Value.type "UnicodeEncodeError")), (@PySem.DictEntry.mk (@PySem.PyData.keyHash P (Str.ofString "UnicodeTranslateError")) (@PySem.Value.str (Str.ofString "UnicodeTranslateError") 149) (@PySem.Value.type "UnicodeTranslateError")), (@PySem.DictEntry.mk (@PySem.PyData.keyHash P (Str.ofString "ExceptionGroup")) (@PySem.Value.str (Str.ofString "ExceptionGroup") 150) (@PySem.Value.type "ExceptionGroup")), (@PySem.DictEntry.mk (@PySem.PyData.keyHash P (Str.ofString "EnvironmentError")) (@PySem.Value.str (Str.ofString "EnvironmentError") 151) (@PySem.Value.type "OSError")), (@PySem.DictEntry.mk (@PySem.PyData.keyHash P (Str.ofString "IOError")) (@PySem.Value.str (Str.ofString "IOError") 152) (@PySem.Value.type "OSError")), (@PySem.DictEntry.mk (@PySem.PyData.keyHash P (Str.ofString "open")) (@PySem.Value.str (Str.ofString "open") 153) (@PySem.Value.builtin "open")), (@PySem.DictEntry.mk (@PySem.PyData.keyHash P (Str.ofString "quit")) (@PySem.Value.str (Str.ofString "quit") 154) (@PySem.Value.builtin "builtins.quit#opaque")), (@PySem.DictEntry.mk (@PySem.PyData.keyHash P (Str.ofString "exit")) (@PySem.Value.str (Str.ofString "exit") 155) (@PySem.Value.builtin "builtins.exit#opaque")), (@PySem.DictEntry.mk (@PySem.PyData.keyHash P (Str.ofString "copyright")) (@PySem.Value.str (Str.ofString "copyright") 156) (@PySem.Value.builtin "builtins.copyright#opaque")), (@PySem.DictEntry.mk (@PySem.PyData.keyHash P (Str.ofString "credits")) (@PySem.Value.str (Str.ofString "credits") 157) (@PySem.Value.builtin "builtins.credits#opaque")), (@PySem.DictEntry.mk (@PySem.PyData.keyHash P (Str.ofString "license")) (@PySem.Value.str (Str.ofString "license") 158) (@PySem.Value.builtin "builtins.license#opaque")), (@PySem.DictEntry.mk (@PySem.PyData.keyHash P (Str.ofString "help")) (@PySem.Value.str (Str.ofString "help") 159) (@PySem.Value.builtin "builtins.help#opaque"))]) 159) (List.toArray []))
noncomputable abbrev obA1 (P : Params) : Obj := (@PySem.Obj.mk (@PySem.Value.type "dict") none (@PySem.Data.dict (List.toArray [(@PySem.DictEntry.mk (@PySem.PyData.keyHash P (Str.ofString "builtins")) (@PySem.Value.str (Str.ofString "builtins") 162) (@PySem.Value.ref 4)), (@PySem.DictEntry.mk (@PySem.PyData.keyHash P (Str.ofString "__main__")) (@PySem.Value.str (Str.ofString "__main__") 163) (@PySem.Value.ref 5)), (@PySem.DictEntry.mk (@PySem.PyData.keyHash P (Str.ofString "_sre")) (@PySem.Value.str (Str.ofString "_sre") 244) (@PySem.Value.ref 12))]) 3) (List.toArray []))
noncomputable abbrev obA2 (P : Params) : Obj := (@PySem.Obj.mk @PySem.Value.none none (@PySem.Data.dict (List.toArray [(@PySem.DictEntry.mk (@PySem.PyData.keyHash P (Str.mk (List.toArray [105, 109, 112, 111, 114, 116, 46, 108, 111, 97, 100, 101, 100, 46, 95, 115, 114, 101]))) (@PySem.Value.str (Str.mk (List.toArray [105, 109, 112, 111, 114, 116, 46, 108, 111, 97, 100, 101, 100, 46, 95, 115, 114, 101])) 183) (@PySem.Value.bool @Bool.true)), (@PySem.DictEntry.mk (@PySem.PyData.keyHash P (Str.mk (List.toArray [99, 108, 97, 115, 115, 46, 95, 102, 114, 111, 122, 101, 110, 95, 105, 109, 112, 111, 114, 116, 108, 105, 98, 46, 66, 117, 105, 108, 116, 105, 110, 73, 109, 112, 111, 114, 116, 101, 114]))) (@PySem.Value.str (Str.mk (List.toArray [99, 108, 97, 115, 115, 46, 95, 102, 114, 111, 122, 101, 110, 95, 105, 109, 112, 111, 114, 116, 108, 105, 98, 46, 66, 117, 105, 108, 116, 105, 110, 73, 109, 112, 111, 114, 116, 101, 114])) 185) (@PySem.Value.ref 14)), (@PySem.DictEntry.mk (@PySem.PyData.keyHash P (Str.mk (List.toArray [119, 97, 116, 99, 104, 101, 100, 46, 105, 109, 112, 111, 114, 116]))) (@PySem.Value.str (Str.mk (List.toArray [119, 97, 116, 99, 104, 101, 100, 46, 105, 109, 112, 111, 114, 116])) 206) (@PySem.Value.ref 18)), (@PySem.DictEntry.mk (@PySem.PyData.keyHash P (Str.mk (List.toArray [99, 108, 97, 115, 115, 46, 95, 102, 114, 111, 122, 101, 110, 95, 105, 109, 112, 111, 114, 116, 108, 105, 98, 46, 77, 111, 100, 117, 108, 101, 83, 112, 101, 99]))) (@PySem.Value.str (Str.mk (List.toArray [99, 108, 97, 115, 115, 46, 95, 102, 114, 111, 122, 101, 110, 95, 105, 109, 112, 111, 114, 116, 108, 105, 98, 46, 77, 111, 100, 117, 108, 101, 83, 112, 101, 99])) 216) (@PySem.Value.ref 22)), (@PySem.DictEntry.mk (@PySem.PyData.keyHash P (Str.mk (List.toArray [115, 121, 115, 46, 109, 111, 100, 117, 108, 101, 115, 46, 98, 111, 111, 107, 101, 100, 45, 101, 112, 111, 99, 104]))) (@PySem.Value.str (Str.mk (List.toArray [115, 121, 115, 46, 109, 111, 100, 117, 108, 101, 115, 46, 98, 111, 111, 107, 101, 100, 45, 101, 112, 111, 99, 104])) 245) (@PySem.Value.int (@OfNat.ofNat.{0} @Int 3 (@instOfNat 3)) 0)), (@PySem.DictEntry.mk (@PySem.PyData.keyHash P (Str.mk (List.toArray [105, 109, 112, 111, 114, 116, 46, 108, 97, 116, 101, 114, 45, 108, 97, 105, 100, 46, 95, 115, 114, 101]))) (@PySem.Value.str (Str.mk (List.toArray [105, 109, 112, 111, 114, 116, 46, 108, 97, 116, 101, 114, 45, 108, 97, 105, 100, 46, 95, 115, 114, 101])) 270) (@PySem.Value.bool @Bool.true)), (@PySem.DictEntry.mk (@PySem.PyData.keyHash P (Str.ofString "watched.library")) (@PySem.Value.str (Str.ofString "watched.library") 272) (@PySem.Value.ref 27)), (@PySem.DictEntry.mk (@PySem.PyData.keyHash P (Str.mk (List.toArray [119, 97, 116, 99, 104, 101, 100, 46, 108, 105, 98, 114, 97, 114, 121, 45, 111, 98, 106, 101, 99, 116, 115]))) (@PySem.Value.str (Str.mk (List.toArray [119, 97, 116, 99, 104, 101, 100, 46, 108, 105, 98, 114, 97, 114, 121, 45, 111, 98, 106, 101, 99, 116, 115])) 0) (@PySem.Value.str (Str.mk (List.toArray [12])) 0)), (@PySem.DictEntry.mk (@PySem.PyData.keyHash P (Str.mk (List.toArray [119, 97, 116, 99, 104, 101, 100, 46, 108, 105, 98, 114, 97, 114, 121, 45, 100, 101, 101, 112, 46, 95, 115, 114, 101]))) (@PySem.Value.str (Str.mk (List.toArray [119, 97, 116, 99, 104, 101, 100, 46, 108, 105, 98, 114, 97, 114, 121, 45, 100, 101, 101, 112, 46, 95, 115, 114, 101])) 273) (@PySem.Value.str (Str.mk (List.toArray [4, 0, 0, 11, 4, 0, 0, 11, 4, 0, 0, 3, 4, 0, 0, 11, 8, 4, 100, 105, 99, 116, 2])) 0))]) 9) (List.toArray []))
noncomputable abbrev obA3 (P : Params) : Obj := (@PySem.Obj.mk (@PySem.Value.type "dict") none (@PySem.Data.dict (List.toArray [(@PySem.DictEntry.mk (@PySem.PyData.keyHash P (Str.ofString "__name__")) (@PySem.Value.str (Str.ofString "__name__") 165) (@PySem.Value.str (Str.ofString "__main__") 164)), (@PySem.DictEntry.mk (@PySem.PyData.keyHash P (Str.ofString "__doc__")) (@PySem.Value.str (Str.ofString "__doc__") 166) @PySem.Value.none), (@PySem.DictEntry.mk (@PySem.PyData.keyHash P (Str.ofString "__package__")) (@PySem.Value.str (Str.ofString "__package__") 167) @PySem.Value.none), (@PySem.DictEntry.mk (@PySem.PyData.keyHash P (Str.ofString "__loader__")) (@PySem.Value.str (Str.ofString "__loader__") 168) (@PySem.Value.builtin "__main__.__loader__#opaque")), (@PySem.DictEntry.mk (@PySem.PyData.keyHash P (Str.ofString "__spec__")) (@PySem.Value.str (Str.ofString "__spec__") 169) @PySem.Value.none), (@PySem.DictEntry.mk (@PySem.PyData.keyHash P (Str.ofString "__annotations__")) (@PySem.Value.str (Str.ofString "__annotations__") 170) (@PySem.Value.ref 6)), (@PySem.DictEntry.mk (@PySem.PyData.keyHash P (Str.ofString "__builtins__")) (@PySem.Value.str (Str.ofString "__builtins__") 171) (@PySem.Value.ref 4)), (@PySem.DictEntry.mk (@PySem.PyData.keyHash P (Str.ofString "__file__")) (@PySem.Value.str (Str.ofString "__file__") 173) (@PySem.Value.str (Str.mk (List.toArray [47, 99, 108, 97, 105, 109, 47, 99, 117, 116, 46, 112, 121])) 172)), (@PySem.DictEntry.mk (@PySem.PyData.keyHash P (Str.ofString "__cached__")) (@PySem.Value.str (Str.ofString "__cached__") 174) @PySem.Value.none), (@PySem.DictEntry.mk (@PySem.PyData.keyHash P (Str.ofString "_sre")) (@PySem.Value.str (Str.ofString "_sre") 275) (@PySem.Value.ref 12))]) 10) (List.toArray []))
noncomputable abbrev obA4 (P : Params) : Obj := (@PySem.Obj.mk (@PySem.Value.type "module") (some 0) @PySem.Data.plain (List.toArray []))
noncomputable abbrev obA5 (P : Params) : Obj := (@PySem.Obj.mk (@PySem.Value.type "module") (some 3) @PySem.Data.plain (List.toArray []))
noncomputable abbrev obA6 (P : Params) : Obj := (@PySem.Obj.mk (@PySem.Value.type "dict") none (@PySem.Data.dict (List.toArray []) 0) (List.toArray []))
noncomputable abbrev obA7 (P : Params) : Obj := (@PySem.Obj.mk (@PySem.Value.type "tuple") none (@PySem.Data.seq (List.toArray []) 0) (List.toArray []))
noncomputable abbrev obA8 (P : Params) : Obj := (@PySem.Obj.mk @PySem.Value.none none (@PySem.Data.fields (List.toArray [])) (List.toArray []))
noncomputable abbrev obA9 (P : Params) : Obj := (@PySem.Obj.mk (@PySem.Value.type "code") none (@PySem.Data.fields (List.toArray [(@PySem.Value.str (Str.mk (List.toArray [60, 109, 111, 100, 117, 108, 101, 62])) 176), (@PySem.Value.str (Str.mk (List.toArray [60, 109, 111, 100, 117, 108, 101, 62])) 177), (@PySem.Value.str (Str.mk (List.toArray [47, 99, 108, 97, 105, 109, 47, 99, 117, 116, 46, 112, 121])) 178), (@PySem.Value.int (@OfNat.ofNat.{0} @Int 1 (@instOfNat 1)) 0), (@PySem.Value.int (@OfNat.ofNat.{0} @Int 0 (@instOfNat 0)) 0), (@PySem.Value.int (@OfNat.ofNat.{0} @Int 0 (@instOfNat 0)) 0), (@PySem.Value.int (@OfNat.ofNat.{0} @Int 0 (@instOfNat 0)) 0), (@PySem.Value.int (@OfNat.ofNat.{0} @Int 0 (@instOfNat 0)) 0), (@PySem.Value.ref 7), (@PySem.Value.bool @Bool.false), (@PySem.Value.int (@OfNat.ofNat.{0} @Int 175 (@instOfNat 175)) 0), (@PySem.Value.ref 8), @PySem.Value.none, @PySem.Value.none, @PySem.Value.none, @PySem.Value.none, (@PySem.Value.int (@OfNat.ofNat.{0} @Int 179 (@instOfNat 179)) 0), (@PySem.Value.int (@OfNat.ofNat.{0} @Int 1 (@instOfNat 1)) 0), (@PySem.Value.str (Str.mk (List.toArray [47, 99, 108, 97, 105, 109, 47, 99, 117, 116, 46, 112, 121])) 180)])) (List.toArray []))
noncomputable abbrev obA10 (P : Params) : Obj := (@PySem.Obj.mk (@PySem.Value.type "frame") none @PySem.Data.plain (List.toArray [(some (@PySem.Value.ref 9)), (some (@PySem.Value.ref 3)), (some (@PySem.Value.ref 3)), none, (some (@PySem.Value.str (Str.ofString "__main__") 164)), none, (some (@PySem.Value.ref 0))]))
noncomputable abbrev obA11 (P : Params) : Obj := (@PySem.Obj.mk (@PySem.Value.type "dict") none (@PySem.Data.dict (List.toArray [(@PySem.DictEntry.mk (@PySem.PyData.keyHash P (Str.ofString "__name__")) (@PySem.Value.str (Str.ofString "__name__") 247) (@PySem.Value.str (Str.ofString "_sre") 246)), (@PySem.DictEntry.mk (@PySem.PyData.keyHash P (Str.ofString "__doc__")) (@PySem.Value.str (Str.ofString "__doc__") 248) @PySem.Value.none), (@PySem.DictEntry.mk (@PySem.PyData.keyHash P (Str.ofString "__package__")) (@PySem.Value.str (Str.ofString "__package__") 250) (@PySem.Value.str (Str.ofString "") 249)), (@PySem.DictEntry.mk (@PySem.PyData.keyHash P (Str.ofString "__loader__")) (@PySem.Value.str (Str.ofString "__loader__") 251) (@PySem.Value.builtin "off-the-table:_sre.__loader__:shared#opaque")), (@PySem.DictEntry.mk (@PySem.PyData.keyHash P (Str.ofString "__spec__")) (@PySem.Value.str (Str.ofString "__spec__") 252) (@PySem.Value.builtin "off-the-table:_sre.__spec__:shared#opaque")), (@PySem.DictEntry.mk (@PySem.PyData.keyHash P (Str.ofString "compile")) (@PySem.Value.str (Str.ofString "compile") 253) (@PySem.Value.builtin "_sre.compile")), (@PySem.DictEntry.mk (@PySem.PyData.keyHash P (Str.ofString "template")) (@PySem.Value.str (Str.ofString "template") 254) (@PySem.Value.builtin "off-the-table:_sre.template:shared#opaque")), (@PySem.DictEntry.mk (@PySem.PyData.keyHash P (Str.ofString "getcodesize")) (@PySem.Value.str (Str.ofString "getcodesize") 255) (@PySem.Value.builtin "off-the-table:_sre.getcodesize:shared#opaque")), (@PySem.DictEntry.mk (@PySem.PyData.keyHash P (Str.ofString "ascii_iscased")) (@PySem.Value.str (Str.ofString "ascii_iscased") 256) (@PySem.Value.builtin "off-the-table:_sre.ascii_iscased:shared#opaque")), (@PySem.DictEntry.mk (@PySem.PyData.keyHash P (Str.ofString "unicode_iscased")) (@PySem.Value.str (Str.ofString "unicode_iscased") 257) (@PySem.Value.builtin "off-the-table:_sre.unicode_iscased:shared#opaque")), (@PySem.DictEntry.mk (@PySem.PyData.keyHash P (Str.ofString "ascii_tolower")) (@PySem.Value.str (Str.ofString "ascii_tolower") 258) (@PySem.Value.builtin "off-the-table:_sre.ascii_tolower:shared#opaque")), (@PySem.DictEntry.mk (@PySem.PyData.keyHash P (Str.ofString "unicode_tolower")) (@PySem.Value.str (Str.ofString "unicode_tolower") 259) (@PySem.Value.builtin "off-the-table:_sre.unicode_tolower:shared#opaque")), (@PySem.DictEntry.mk (@PySem.PyData.keyHash P (Str.ofString "MAGIC")) (@PySem.Value.str (Str.ofString "MAGIC") 261) (@PySem.Value.int (@OfNat.ofNat.{0} @Int 20230612 (@instOfNat 20230612)) 260)), (@PySem.DictEntry.mk (@PySem.PyData.keyHash P (Str.ofString "CODESIZE")) (@PySem.Value.str (Str.ofString "CODESIZE") 263) (@PySem.Value.int (@OfNat.ofNat.{0} @Int 4 (@instOfNat 4)) 262)), (@PySem.DictEntry.mk (@PySem.PyData.keyHash P (Str.ofString "MAXREPEAT")) (@PySem.Value.str (Str.ofString "MAXREPEAT") 265) (@PySem.Value.int (@OfNat.ofNat.{0} @Int 4294967295 (@instOfNat 4294967295)) 264)), (@PySem.DictEntry.mk (@PySem.PyData.keyHash P (Str.ofString "MAXGROUPS")) (@PySem.Value.str (Str.ofString "MAXGROUPS") 267) (@PySem.Value.int (@OfNat.ofNat.{0} @Int 1073741823 (@instOfNat 1073741823)) 266)), (@PySem.DictEntry.mk (@PySem.PyData.keyHash P (Str.ofString "copyright")) (@PySem.Value.str (Str.ofString "copyright") 269) (@PySem.Value.str (Str.mk (List.toArray [32, 83, 82, 69, 32, 50, 46, 50, 46, 50, 32, 67, 111, 112, 121, 114, 105, 103, 104, 116, 32, 40, 99, 41, 32, 49, 57, 57, 55, 45, 50, 48, 48, 50, 32, 98, 121, 32, 83, 101, 99, 114, 101, 116, 32, 76, 97, 98, 115, 32, 65, 66, 32])) 268))]) 17) (List.toArray []))
noncomputable abbrev obA12 (P : Params) : Obj := (@PySem.Obj.mk (@PySem.Value.type "module") (some 11) @PySem.Data.plain (List.toArray []))
noncomputable abbrev obA13 (P : Params) : Obj := (@PySem.Obj.mk (@PySem.Value.type "dict") none (@PySem.Data.dict (List.toArray [(@PySem.DictEntry.mk (@PySem.PyData.keyHash P (Str.ofString "__module__")) (@PySem.Value.str (Str.ofString "__module__") 189) (@PySem.Value.str (Str.mk (List.toArray [95, 102, 114, 111, 122, 101, 110, 95, 105, 109, 112, 111, 114, 116, 108, 105, 98])) 186)), (@PySem.DictEntry.mk (@PySem.PyData.keyHash P (Str.ofString "__firstlineno__")) (@PySem.Value.str (Str.ofString "__firstlineno__") 190) (@PySem.Value.int (@OfNat.ofNat.{0} @Int 971 (@instOfNat 971)) 187)), (@PySem.DictEntry.mk (@PySem.PyData.keyHash P (Str.ofString "__doc__")) (@PySem.Value.str (Str.ofString "__doc__") 191) (@PySem.Value.builtin "_frozen_importlib.BuiltinImporter.__doc__:str#opaque")), (@PySem.DictEntry.mk (@PySem.PyData.keyHash P (Str.ofString "_ORIGIN")) (@PySem.Value.str (Str.ofString "_ORIGIN") 192) (@PySem.Value.str (Str.mk (List.toArray [98, 117, 105, 108, 116, 45, 105, 110])) 188)), (@PySem.DictEntry.mk (@PySem.PyData.keyHash P (Str.ofString "find_spec")) (@PySem.Value.str (Str.ofString "find_spec") 193) (@PySem.Value.builtin "_frozen_importlib.BuiltinImporter.find_spec#opaque")), (@PySem.DictEntry.mk (@PySem.PyData.keyHash P (Str.ofString "create_module")) (@PySem.Value.str (Str.ofString "create_module") 194) (@PySem.Value.builtin "_frozen_importlib.BuiltinImporter.create_module#opaque")), (@PySem.DictEntry.mk (@PySem.PyData.keyHash P (Str.ofString "exec_module")) (@PySem.Value.str (Str.ofString "exec_module") 195) (@PySem.Value.builtin "_frozen_importlib.BuiltinImporter.exec_module#opaque")), (@PySem.DictEntry.mk (@PySem.PyData.keyHash P (Str.ofString "get_code")) (@PySem.Value.str (Str.ofString "get_code") 196) (@PySem.Value.builtin "_frozen_importlib.BuiltinImporter.get_code#opaque")), (@PySem.DictEntry.mk (@PySem.PyData.keyHash P (Str.ofString "get_source")) (@PySem.Value.str (Str.ofString "get_source") 197) (@PySem.Value.builtin "_frozen_importlib.BuiltinImporter.get_source#opaque")), (@PySem.DictEntry.mk (@PySem.PyData.keyHash P (Str.ofString "is_package")) (@PySem.Value.str (Str.ofString "is_package") 198) (@PySem.Value.builtin "_frozen_importlib.BuiltinImporter.is_package#opaque")), (@PySem.DictEntry.mk (@PySem.PyData.keyHash P (Str.ofString "load_module")) (@PySem.Value.str (Str.ofString "load_module") 199) (@PySem.Value.builtin "_frozen_importlib.BuiltinImporter.load_module#opaque")), (@PySem.DictEntry.mk (@PySem.PyData.keyHash P (Str.ofString "__static_attributes__")) (@PySem.Value.str (Str.ofString "__static_attributes__") 200) (@PySem.Value.ref 15)), (@PySem.DictEntry.mk (@PySem.PyData.keyHash P (Str.ofString "__dict__")) (@PySem.Value.str (Str.ofString "__dict__") 202) (@PySem.Value.ref 16)), (@PySem.DictEntry.mk (@PySem.PyData.keyHash P (Str.ofString "__weakref__")) (@PySem.Value.str (Str.ofString "__weakref__") 204) (@PySem.Value.ref 17))]) 14) (List.toArray []))
noncomputable abbrev obA14 (P : Params) : Obj := (@PySem.Obj.mk (@PySem.Value.type "type") none (@PySem.Data.cls (@PySem.ClassData.mk (Str.ofString "BuiltinImporter") [(@PySem.Value.type "object")] [(@PySem.Value.ref 14), (@PySem.Value.type "object")] 13 (Str.ofString "BuiltinImporter") @Bool.true [] [] @Bool.false none @Bool.false)) (List.toArray []))
noncomputable abbrev obA15 (P : Params) : Obj := (@PySem.Obj.mk (@PySem.Value.type "tuple") none (@PySem.Data.seq (List.toArray []) 0) (List.toArray []))
noncomputable abbrev obA16 (P : Params) : Obj := (@PySem.Obj.mk (@PySem.Value.type "getset_descriptor") none (@PySem.Data.fields (List.toArray [(@PySem.Value.str (Str.ofString "__dict__") 201), (@PySem.Value.ref 14), (@PySem.Value.builtin "function.__dict__"), (@PySem.Value.builtin "function.__dict__#set")])) (List.toArray []))
noncomputable abbrev obA17 (P : Params) : Obj := (@PySem.Obj.mk (@PySem.Value.type "getset_descriptor") none (@PySem.Data.fields (List.toArray [(@PySem.Value.str (Str.ofString "__weakref__") 203), (@PySem.Value.ref 14), (@PySem.Value.builtin "ExceptionGroup.__weakref__"), @PySem.Value.none])) (List.toArray []))
noncomputable abbrev obA18 (P : Params) : Obj := (@PySem.Obj.mk @PySem.Value.none none (@PySem.Data.seq (List.toArray [(@PySem.Value.int (@OfNat.ofNat.{0} @Int 13 (@instOfNat 13)) 0), (@PySem.Value.str (Str.mk (List.toArray [6, 189, 10, 95, 95, 109, 111, 100, 117, 108, 101, 95, 95, 6, 186, 17, 95, 102, 114, 111, 122, 101, 110, 95, 105, 109, 112, 111, 114, 116, 108, 105, 98, 6, 190, 15, 95, 95, 102, 105, 114, 115, 116, 108, 105, 110, 101, 110, 111, 95, 95, 4, 187, 0, 971, 6, 191, 7, 95, 95, 100, 111, 99, 95, 95, 9, 52, 95, 102, 114, 111, 122, 101, 110, 95, 105, 109, 112, 111, 114, 116, 108, 105, 98, 46, 66, 117, 105, 108, 116, 105, 110, 73, 109, 112, 111, 114, 116, 101, 114, 46, 95, 95, 100, 111, 99, 95, 95, 58, 115, 116, 114, 35, 111, 112, 97, 113, 117, 101, 6, 192, 7, 95, 79, 82, 73, 71, 73, 78, 6, 188, 8, 98, 117, 105, 108, 116, 45, 105, 110, 6, 193, 9, 102, 105, 110, 100, 95, 115, 112, 101, 99, 9, 50, 95, 102, 114, 111, 122, 101, 110, 95, 105, 109, 112, 111, 114, 116, 108, 105, 98, 46, 66, 117, 105, 108, 116, 105, 110, 73, 109, 112, 111, 114, 116, 101, 114, 46, 102, 105, 110, 100, 95, 115, 112, 101, 99, 35, 111, 112, 97, 113, 117, 101, 6, 194, 13, 99, 114, 101, 97, 116, 101, 95, 109, 111, 100, 117, 108, 101, 9, 54, 95, 102, 114, 111, 122, 101, 110, 95, 105, 109, 112, 111, 114, 116, 108, 105, 98, 46, 66, 117, 105, 108, 116, 105, 110, 73, 109, 112, 111, 114, 116, 101, 114, 46, 99, 114, 101, 97, 116, 101, 95, 109, 111, 100, 117, 108, 101, 35, 111, 112, 97, 113, 117, 101, 6, 195, 11, 101, 120, 101, 99, 95, 109, 111, 100, 117, 108, 101, 9, 52, 95, 102, 114, 111, 122, 101, 110, 95, 105, 109, 112, 111, 114, 116, 108, 105, 98, 46, 66, 117, 105, 108, 116, 105, 110, 73, 109, 112, 111, 114, 116, 101, 114, 46, 101, 120, 101, 99, 95, 109, 111, 100, 117, 108, 101, 35, 111, 112, 97, 113, 117, 101, 6, 196, 8, 103, 101, 116, 95, 99, 111, 100, 101, 9, 49, 95, 102, 114, 111, 122, 101, 110, 95, 105, 109, 112, 111, 114, 116, 108, 105, 98, 46, 66, 117, 105, 108, 116, 105, 110, 73, 109, 112, 111, 114, 116, 101, 114, 46, 103, 101, 116, 95, 99, 111, 100, 101, 35, 111, 112, 97, 113, 117, 101, 6, 197, 10, 103, 101, 116, 95, 115, 111, 117, 114, 99, 101, 9, 51, 95, 102, 114, 111, 122, 101, 110, 95, 105, 109, 112, 111, 114, 116, 108, 105, 98, 46, 66, 117, 105, 108, 116, 105, 110, 73, 109, 112, 111, 114, 116, 101, 114, 46, 103, 101, 116, 95, 115, 111, 117, 114, 99, 101, 35, 111, 112, 97, 113, 117, 101, 6, 198, 10, 105, 115, 95, 112, 97, 99, 107, 97, 103, 101, 9, 51, 95, 102, 114, 111, 122, 101, 110, 95, 105, 109, 112, 111, 114, 116, 108, 105, 98, 46, 66, 117, 105, 108, 116, 105, 110, 73, 109, 112, 111, 114, 116, 101, 114, 46, 105, 115, 95, 112, 97, 99, 107, 97, 103, 101, 35, 111, 112, 97, 113, 117, 101, 6, 199, 11, 108, 111, 97, 100, 95, 109, 111, 100, 117, 108, 101, 9, 52, 95, 102, 114, 111, 122, 101, 110, 95, 105, 109, 112, 111, 114, 116, 108, 105, 98, 46, 66, 117, 105, 108, 116, 105, 110, 73, 109, 112, 111, 114, 116, 101, 114, 46, 108, 111, 97, 100, 95, 109, 111, 100, 117, 108, 101, 35, 111, 112, 97, 113, 117, 101, 6, 200, 21, 95, 95, 115, 116, 97, 116, 105, 99, 95, 97, 116, 116, 114, 105, 98, 117, 116, 101, 115, 95, 95, 4, 0, 0, 15, 6, 202, 8, 95, 95, 100, 105, 99, 116, 95, 95, 4, 0, 0, 16, 6, 204, 11, 95, 95, 119, 101, 97, 107, 114, 101, 102, 95, 95, 4, 0, 0, 17])) 0), (@PySem.Value.bool @Bool.true), (@PySem.Value.bool @Bool.true), (@PySem.Value.str (Str.ofString "") 205), (@PySem.Value.int (@OfNat.ofNat.{0} @Int 21 (@instOfNat 21)) 0), (@PySem.Value.str (Str.mk (List.toArray [6, 227, 10, 95, 95, 109, 111, 100, 117, 108, 101, 95, 95, 6, 217, 17, 95, 102, 114, 111, 122, 101, 110, 95, 105, 109, 112, 111, 114, 116, 108, 105, 98, 6, 228, 15, 95, 95, 102, 105, 114, 115, 116, 108, 105, 110, 101, 110, 111, 95, 95, 4, 218, 0, 562, 6, 229, 7, 95, 95, 100, 111, 99, 95, 95, 9, 47, 95, 102, 114, 111, 122, 101, 110, 95, 105, 109, 112, 111, 114, 116, 108, 105, 98, 46, 77, 111, 100, 117, 108, 101, 83, 112, 101, 99, 46, 95, 95, 100, 111, 99, 95, 95, 58, 115, 116, 114, 35, 111, 112, 97, 113, 117, 101, 6, 230, 8, 95, 95, 105, 110, 105, 116, 95, 95, 9, 44, 95, 102, 114, 111, 122, 101, 110, 95, 105, 109, 112, 111, 114, 116, 108, 105, 98, 46, 77, 111, 100, 117, 108, 101, 83, 112, 101, 99, 46, 95, 95, 105, 110, 105, 116, 95, 95, 35, 111, 112, 97, 113, 117, 101, 6, 231, 8, 95, 95, 114, 101, 112, 114, 95, 95, 9, 44, 95, 102, 114, 111, 122, 101, 110, 95, 105, 109, 112, 111, 114, 116, 108, 105, 98, 46, 77, 111, 100, 117, 108, 101, 83, 112, 101, 99, 46, 95, 95, 114, 101, 112, 114, 95, 95, 35, 111, 112, 97, 113, 117, 101, 6, 232, 6, 95, 95, 101, 113, 95, 95, 9, 42, 95, 102, 114, 111, 122, 101, 110, 95, 105, 109, 112, 111, 114, 116, 108, 105, 98, 46, 77, 111, 100, 117, 108, 101, 83, 112, 101, 99, 46, 95, 95, 101, 113, 95, 95, 35, 111, 112, 97, 113, 117, 101, 6, 233, 6, 99, 97, 99, 104, 101, 100, 9, 42, 95, 102, 114, 111, 122, 101, 110, 95, 105, 109, 112, 111, 114, 116, 108, 105, 98, 46, 77, 111, 100, 117, 108, 101, 83, 112, 101, 99, 46, 99, 97, 99, 104, 101, 100, 35, 111, 112, 97, 113, 117, 101, 6, 234, 6, 112, 97, 114, 101, 110, 116, 9, 42, 95, 102, 114, 111, 122, 101, 110, 95, 105, 109, 112, 111, 114, 116, 108, 105, 98, 46, 77, 111, 100, 117, 108, 101, 83, 112, 101, 99, 46, 112, 97, 114, 101, 110, 116, 35, 111, 112, 97, 113, 117, 101, 6, 235, 12, 104, 97, 115, 95, 108, 111, 99, 97, 116, 105, 111, 110, 9, 48, 95, 102, 114, 111, 122, 101, 110, 95, 105, 109, 112, 111, 114, 116, 108, 105, 98, 46, 77, 111, 100, 117, 108, 101, 83, 112, 101, 99, 46, 104, 97, 115, 95, 108, 111, 99, 97, 116, 105, 111, 110, 35, 111, 112, 97, 113, 117, 101, 6, 236, 21, 95, 95, 115, 116, 97, 116, 105, 99, 95, 97, 116, 116, 114, 105, 98, 117, 116, 101, 115, 95, 95, 4, 0, 0, 23, 6, 238, 8, 95, 95, 100, 105, 99, 116, 95, 95, 4, 0, 0, 24, 6, 240, 11, 95, 95, 119, 101, 97, 107, 114, 101, 102, 95, 95, 4, 0, 0, 25, 6, 241, 8, 95, 95, 104, 97, 115, 104, 95, 95, 0])) 0), (@PySem.Value.bool @Bool.true), (@PySem.Value.bool @Bool.true), (@PySem.Value.str (Str.ofString "") 242)]) 1) (List.toArray []))
noncomputable abbrev obA19 (P : Params) : Obj := (@PySem.Obj.mk (@PySem.Value.type "list") none (@PySem.Data.seq (List.toArray []) 0) (List.toArray []))
noncomputable abbrev obA20 (P : Params) : Obj := (@PySem.Obj.mk (@PySem.Value.type "dict") none (@PySem.Data.dict (List.toArray [(@PySem.DictEntry.mk (@PySem.PyData.keyHash P (Str.ofString "name")) (@PySem.Value.str (Str.ofString "name") 208) (@PySem.Value.str (Str.ofString "_sre") 207)), (@PySem.DictEntry.mk (@PySem.PyData.keyHash P (Str.ofString "loader")) (@PySem.Value.str (Str.ofString "loader") 209) (@PySem.Value.ref 14)), (@PySem.DictEntry.mk (@PySem.PyData.keyHash P (Str.ofString "origin")) (@PySem.Value.str (Str.ofString "origin") 210) (@PySem.Value.str (Str.mk (List.toArray [98, 117, 105, 108, 116, 45, 105, 110])) 184)), (@PySem.DictEntry.mk (@PySem.PyData.keyHash P (Str.ofString "loader_state")) (@PySem.Value.str (Str.ofString "loader_state") 211) @PySem.Value.none), (@PySem.DictEntry.mk (@PySem.PyData.keyHash P (Str.ofString "submodule_search_locations")) (@PySem.Value.str (Str.ofString "submodule_search_locations") 212) @PySem.Value.none), (@PySem.DictEntry.mk (@PySem.PyData.keyHash P (Str.ofString "_uninitialized_submodules")) (@PySem.Value.str (Str.ofString "_uninitialized_submodules") 213) (@PySem.Value.ref 19)), (@PySem.DictEntry.mk (@PySem.PyData.keyHash P (Str.ofString "_set_fileattr")) (@PySem.Value.str (Str.ofString "_set_fileattr") 214) (@PySem.Value.bool @Bool.false)), (@PySem.DictEntry.mk (@PySem.PyData.keyHash P (Str.ofString "_cached")) (@PySem.Value.str (Str.ofString "_cached") 215) @PySem.Value.none), (@PySem.DictEntry.mk (@PySem.PyData.keyHash P (Str.ofString "_initializing")) (@PySem.Value.str (Str.ofString "_initializing") 243) (@PySem.Value.bool @Bool.false))]) 9) (List.toArray []))
noncomputable abbrev obA21 (P : Params) : Obj := (@PySem.Obj.mk (@PySem.Value.type "dict") none (@PySem.Data.dict (List.toArray [(@PySem.DictEntry.mk (@PySem.PyData.keyHash P (Str.ofString "__module__")) (@PySem.Value.str (Str.ofString "__module__") 227) (@PySem.Value.str (Str.mk (List.toArray [95, 102, 114, 111, 122, 101, 110, 95, 105, 109, 112, 111, 114, 116, 108, 105, 98])) 217)), (@PySem.DictEntry.mk (@PySem.PyData.keyHash P (Str.ofString "__firstlineno__")) (@PySem.Value.str (Str.ofString "__firstlineno__") 228) (@PySem.Value.int (@OfNat.ofNat.{0} @Int 562 (@instOfNat 562)) 218)), (@PySem.DictEntry.mk (@PySem.PyData.keyHash P (Str.ofString "__doc__")) (@PySem.Value.str (Str.ofString "__doc__") 229) (@PySem.Value.builtin "_frozen_importlib.ModuleSpec.__doc__:str#opaque")), (@PySem.DictEntry.mk (@PySem.PyData.keyHash P (Str.ofString "__init__")) (@PySem.Value.str (Str.ofString "__init__") 230) (@PySem.Value.builtin "_frozen_importlib.ModuleSpec.__init__#opaque")), (@PySem.DictEntry.mk (@PySem.PyData.keyHash P (Str.ofString "__repr__")) (@PySem.Value.str (Str.ofString "__repr__") 231) (@PySem.Value.builtin "_frozen_importlib.ModuleSpec.__repr__#opaque")), (@PySem.DictEntry.mk (@PySem.PyData.keyHash P (Str.ofString "__eq__")) (@PySem.Value.str (Str.ofString "__eq__") 232) (@PySem.Value.builtin "_frozen_importlib.ModuleSpec.__eq__#opaque")), (@PySem.DictEntry.mk (@PySem.PyData.keyHash P (Str.ofString "cached")) (@PySem.Value.str (Str.ofString "cached") 233) (@PySem.Value.builtin "_frozen_importlib.ModuleSpec.cached#opaque")), (@PySem.DictEntry.mk (@PySem.PyData.keyHash P (Str.ofString "parent")) (@PySem.Value.str (Str.ofString "parent") 234) (@PySem.Value.builtin "_frozen_importlib.ModuleSpec.parent#opaque")), (@PySem.DictEntry.mk (@PySem.PyData.keyHash P (Str.ofString "has_location")) (@PySem.Value.str (Str.ofString "has_location") 235) (@PySem.Value.builtin "_frozen_importlib.ModuleSpec.has_location#opaque")), (@PySem.DictEntry.mk (@PySem.PyData.keyHash P (Str.ofString "__static_attributes__")) (@PySem.Value.str (Str.ofString "__static_attributes__") 236) (@PySem.Value.ref 23)), (@PySem.DictEntry.mk (@PySem.PyData.keyHash P (Str.ofString "__dict__")) (@PySem.Value.str (Str.ofString "__dict__") 238) (@PySem.Value.ref 24)), (@PySem.DictEntry.mk (@PySem.PyData.keyHash P (Str.ofString "__weakref__")) (@PySem.Value.str (Str.ofString "__weakref__") 240) (@PySem.Value.ref 25)), (@PySem.DictEntry.mk (@PySem.PyData.keyHash P (Str.ofString "__hash__")) (@PySem.Value.str (Str.ofString "__hash__") 241) @PySem.Value.none)]) 13) (List.toArray []))
noncomputable abbrev obA22 (P : Params) : Obj := (@PySem.Obj.mk (@PySem.Value.type "type") none (@PySem.Data.cls (@PySem.ClassData.mk (Str.ofString "ModuleSpec") [(@PySem.Value.type "object")] [(@PySem.Value.ref 22), (@PySem.Value.type "object")] 21 (Str.ofString "ModuleSpec") @Bool.true [] [] @Bool.false none @Bool.false)) (List.toArray []))
noncomputable abbrev obA23 (P : Params) : Obj := (@PySem.Obj.mk (@PySem.Value.type "tuple") none (@PySem.Data.seq (List.toArray [(@PySem.Value.str (Str.ofString "_cached") 219), (@PySem.Value.str (Str.ofString "_set_fileattr") 220), (@PySem.Value.str (Str.ofString "_uninitialized_submodules") 221), (@PySem.Value.str (Str.ofString "loader") 222), (@PySem.Value.str (Str.ofString "loader_state") 223), (@PySem.Value.str (Str.ofString "name") 224), (@PySem.Value.str (Str.ofString "origin") 225), (@PySem.Value.str (Str.ofString "submodule_search_locations") 226)]) 0) (List.toArray []))
noncomputable abbrev obA24 (P : Params) : Obj := (@PySem.Obj.mk (@PySem.Value.type "getset_descriptor") none (@PySem.Data.fields (List.toArray [(@PySem.Value.str (Str.ofString "__dict__") 237), (@PySem.Value.ref 22), (@PySem.Value.builtin "function.__dict__"), (@PySem.Value.builtin "function.__dict__#set")])) (List.toArray []))
noncomputable abbrev obA25 (P : Params) : Obj := (@PySem.Obj.mk (@PySem.Value.type "getset_descriptor") none (@PySem.Data.fields (List.toArray [(@PySem.Value.str (Str.ofString "__weakref__") 239), (@PySem.Value.ref 22), (@PySem.Value.builtin "ExceptionGroup.__weakref__"), @PySem.Value.none])) (List.toArray []))
noncomputable abbrev obA26 (P : Params) : Obj := (@PySem.Obj.mk (@PySem.Value.ref 22) (some 20) @PySem.Data.plain (List.toArray []))
noncomputable abbrev obA27 (P : Params) : Obj := (@PySem.Obj.mk @PySem.Value.none none (@PySem.Data.seq (List.toArray [(@PySem.Value.int (@OfNat.ofNat.{0} @Int 11 (@instOfNat 11)) 0), (@PySem.Value.str (@PySem.Str.mk (List.toArray [6, 247, 8, 95, 95, 110, 97, 109, 101, 95, 95, 6, 246, 4, 95, 115, 114, 101, 6, 248, 7, 95, 95, 100, 111, 99, 95, 95, 0, 6, 250, 11, 95, 95, 112, 97, 99, 107, 97, 103, 101, 95, 95, 6, 249, 0, 6, 251, 10, 95, 95, 108, 111, 97, 100, 101, 114, 95, 95, 4, 0, 0, 14, 6, 252, 8, 95, 95, 115, 112, 101, 99, 95, 95, 4, 0, 0, 26, 6, 253, 7, 99, 111, 109, 112, 105, 108, 101, 9, 12, 95, 115, 114, 101, 46, 99, 111, 109, 112, 105, 108, 101, 6, 254, 8, 116, 101, 109, 112, 108, 97, 116, 101, 9, 13, 95, 115, 114, 101, 46, 116, 101, 109, 112, 108, 97, 116, 101, 6, 255, 11, 103, 101, 116, 99, 111, 100, 101, 115, 105, 122, 101, 9, 16, 95, 115, 114, 101, 46, 103, 101, 116, 99, 111, 100, 101, 115, 105, 122, 101, 6, 256, 13, 97, 115, 99, 105, 105, 95, 105, 115, 99, 97, 115, 101, 100, 9, 18, 95, 115, 114, 101, 46, 97, 115, 99, 105, 105, 95, 105, 115, 99, 97, 115, 101, 100, 6, 257, 15, 117, 110, 105, 99, 111, 100, 101, 95, 105, 115, 99, 97, 115, 101, 100, 9, 20, 95, 115, 114, 101, 46, 117, 110, 105, 99, 111, 100, 101, 95, 105, 115, 99, 97, 115, 101, 100, 6, 258, 13, 97, 115, 99, 105, 105, 95, 116, 111, 108, 111, 119, 101, 114, 9, 18, 95, 115, 114, 101, 46, 97, 115, 99, 105, 105, 95, 116, 111, 108, 111, 119, 101, 114, 6, 259, 15, 117, 110, 105, 99, 111, 100, 101, 95, 116, 111, 108, 111, 119, 101, 114, 9, 20, 95, 115, 114, 101, 46, 117, 110, 105, 99, 111, 100, 101, 95, 116, 111, 108, 111, 119, 101, 114, 6, 261, 5, 77, 65, 71, 73, 67, 4, 260, 0, 20230612, 6, 263, 8, 67, 79, 68, 69, 83, 73, 90, 69, 4, 262, 0, 4, 6, 265, 9, 77, 65, 88, 82, 69, 80, 69, 65, 84, 4, 264, 0, 4294967295, 6, 267, 9, 77, 65, 88, 71, 82, 79, 85, 80, 83, 4, 266, 0, 1073741823, 6, 269, 9, 99, 111, 112, 121, 114, 105, 103, 104, 116, 6, 268, 53, 32, 83, 82, 69, 32, 50, 46, 50, 46, 50, 32, 67, 111, 112, 121, 114, 105, 103, 104, 116, 32, 40, 99, 41, 32, 49, 57, 57, 55, 45, 50, 48, 48, 50, 32, 98, 121, 32, 83, 101, 99, 114, 101, 116, 32, 76, 97, 98, 115, 32, 65, 66, 32])) 0), (@PySem.Value.bool @Bool.true), (@PySem.Value.bool @Bool.false), (@PySem.Value.str (Str.ofString "_sre") 271)]) 0) (List.toArray []))
noncomputable abbrev hpA (P : Params) : Heap := ⟨⟨[obA0 P, obA1 P, obA2 P, obA3 P, obA4 P, obA5 P, obA6 P, obA7 P, obA8 P, obA9 P, obA10 P, obA11 P, obA12 P, obA13 P, obA14 P, obA15 P, obA16 P, obA17 P, obA18 P, obA19 P, obA20 P, obA21 P, obA22 P, obA23 P, obA24 P, obA25 P, obA26 P, obA27 P]⟩, (@PySem.Life.mk [] [] [] 0 [] [] @Bool.false (List.toArray []) [] 0 @Bool.false @Bool.false @Bool.false (@OfNat.ofNat.{0} @Int 0 (@instOfNat 0)) [(@OfNat.ofNat.{0} @Int 2000 (@instOfNat 2000)), (@OfNat.ofNat.{0} @Int 10 (@instOfNat 10)), (@OfNat.ofNat.{0} @Int 10 (@instOfNat 10))] @Bool.false 0 @Bool.true [] [] 0 @Bool.false)⟩
noncomputable abbrev stA (w : World) (os : OsState) : Shared := ⟨hpA w.params, ⟨[]⟩, (@PySem.Drawn.mk 0 0 0 0), 276, os⟩
noncomputable abbrev obB28 (P : Params) : Obj := (@PySem.Obj.mk (@PySem.Value.type "tuple") none (@PySem.Data.seq (List.toArray []) 0) (List.toArray []))
noncomputable abbrev obB29 (P : Params) : Obj := (@PySem.Obj.mk @PySem.Value.none none (@PySem.Data.fields (List.toArray [])) (List.toArray []))
noncomputable abbrev obB30 (P : Params) : Obj := (@PySem.Obj.mk (@PySem.Value.type "code") none (@PySem.Data.fields (List.toArray [(@PySem.Value.str (Str.mk (List.toArray [60, 109, 111, 100, 117, 108, 101, 62])) 277), (@PySem.Value.str (Str.mk (List.toArray [60, 109, 111, 100, 117, 108, 101, 62])) 278), (@PySem.Value.str (Str.mk (List.toArray [47, 99, 108, 97, 105, 109, 47, 99, 117, 116, 46, 112, 121])) 279), (@PySem.Value.int (@OfNat.ofNat.{0} @Int 1 (@instOfNat 1)) 0), (@PySem.Value.int (@OfNat.ofNat.{0} @Int 0 (@instOfNat 0)) 0), (@PySem.Value.int (@OfNat.ofNat.{0} @Int 0 (@instOfNat 0)) 0), (@PySem.Value.int (@OfNat.ofNat.{0} @Int 0 (@instOfNat 0)) 0), (@PySem.Value.int (@OfNat.ofNat.{0} @Int 0 (@instOfNat 0)) 0), (@PySem.Value.ref 28), (@PySem.Value.bool @Bool.false), (@PySem.Value.int (@OfNat.ofNat.{0} @Int 276 (@instOfNat 276)) 0), (@PySem.Value.ref 29), @PySem.Value.none, @PySem.Value.none, @PySem.Value.none, @PySem.Value.none, (@PySem.Value.int (@OfNat.ofNat.{0} @Int 280 (@instOfNat 280)) 0), (@PySem.Value.int (@OfNat.ofNat.{0} @Int 1 (@instOfNat 1)) 0), (@PySem.Value.str (Str.mk (List.toArray [47, 99, 108, 97, 105, 109, 47, 99, 117, 116, 46, 112, 121])) 281)])) (List.toArray []))
noncomputable abbrev obB31 (P : Params) : Obj := (@PySem.Obj.mk (@PySem.Value.type "frame") none @PySem.Data.plain (List.toArray [(some (@PySem.Value.ref 30)), (some (@PySem.Value.ref 3)), (some (@PySem.Value.ref 3)), none, (some (@PySem.Value.str (Str.ofString "__main__") 164)), none, (some (@PySem.Value.ref 0))]))
noncomputable abbrev hpB (P : Params) : Heap := ⟨⟨[obA0 P, obA1 P, obA2 P, obA3 P, obA4 P, obA5 P, obA6 P, obA7 P, obA8 P, obA9 P, obA10 P, obA11 P, obA12 P, obA13 P, obA14 P, obA15 P, obA16 P, obA17 P, obA18 P, obA19 P, obA20 P, obA21 P, obA22 P, obA23 P, obA24 P, obA25 P, obA26 P, obA27 P, obB28 P, obB29 P, obB30 P, obB31 P]⟩, (@PySem.Life.mk [] [] [] 0 [] [] @Bool.false (List.toArray []) [] 0 @Bool.false @Bool.false @Bool.false (@OfNat.ofNat.{0} @Int 0 (@instOfNat 0)) [(@OfNat.ofNat.{0} @Int 2000 (@instOfNat 2000)), (@OfNat.ofNat.{0} @Int 10 (@instOfNat 10)), (@OfNat.ofNat.{0} @Int 10 (@instOfNat 10))] @Bool.false 0 @Bool.true [] [] 0 @Bool.false)⟩
noncomputable abbrev stB (w : World) (os : OsState) : Shared := ⟨hpB w.params, ⟨[]⟩, (@PySem.Drawn.mk 0 0 0 0), 282, os⟩
noncomputable abbrev obD3 (P : Params) : Obj := (@PySem.Obj.mk (@PySem.Value.type "dict") none (@PySem.Data.dict (List.toArray [(@PySem.DictEntry.mk (@PySem.PyData.keyHash P (Str.ofString "__name__")) (@PySem.Value.str (Str.ofString "__name__") 165) (@PySem.Value.str (Str.ofString "re") 356)), (@PySem.DictEntry.mk (@PySem.PyData.keyHash P (Str.ofString "__doc__")) (@PySem.Value.str (Str.ofString "__doc__") 166) @PySem.Value.none), (@PySem.DictEntry.mk (@PySem.PyData.keyHash P (Str.ofString "__package__")) (@PySem.Value.str (Str.ofString "__package__") 167) @PySem.Value.none), (@PySem.DictEntry.mk (@PySem.PyData.keyHash P (Str.ofString "__loader__")) (@PySem.Value.str (Str.ofString "__loader__") 168) (@PySem.Value.builtin "__main__.__loader__#opaque")), (@PySem.DictEntry.mk (@PySem.PyData.keyHash P (Str.ofString "__spec__")) (@PySem.Value.str (Str.ofString "__spec__") 169) @PySem.Value.none), (@PySem.DictEntry.mk (@PySem.PyData.keyHash P (Str.ofString "__annotations__")) (@PySem.Value.str (Str.ofString "__annotations__") 170) (@PySem.Value.ref 6)), (@PySem.DictEntry.mk (@PySem.PyData.keyHash P (Str.ofString "__builtins__")) (@PySem.Value.str (Str.ofString "__builtins__") 171) (@PySem.Value.ref 4)), (@PySem.DictEntry.mk (@PySem.PyData.keyHash P (Str.ofString "__file__")) (@PySem.Value.str (Str.ofString "__file__") 173) (@PySem.Value.str (Str.mk (List.toArray [47, 99, 108, 97, 105, 109, 47, 99, 117, 116, 46, 112, 121])) 172)), (@PySem.DictEntry.mk (@PySem.PyData.keyHash P (Str.ofString "__cached__")) (@PySem.Value.str (Str.ofString "__cached__") 174) @PySem.Value.none), (@PySem.DictEntry.mk (@PySem.PyData.keyHash P (Str.ofString "_sre")) (@PySem.Value.str (Str.ofString "_sre") 275) (@PySem.Value.ref 12)), (@PySem.DictEntry.mk (@PySem.PyData.keyHash P (Str.ofString "StatisticsError")) (@PySem.Value.str (Str.ofString "StatisticsError") 301) (@PySem.Value.ref 41)), (@PySem.DictEntry.mk (@PySem.PyData.keyHash P (Str.ofString "median_low")) (@PySem.Value.str (Str.ofString "median_low") 309) (@PySem.Value.ref 51)), (@PySem.DictEntry.mk (@PySem.PyData.keyHash P (Str.ofString "median_high")) (@PySem.Value.str (Str.ofString "median_high") 317) (@PySem.Value.ref 58)), (@PySem.DictEntry.mk (@PySem.PyData.keyHash P (Str.ofString "_twin_re_1")) (@PySem.Value.str (Str.ofString "_twin_re_1") 355) (@PySem.Value.ref 63))]) 14) (List.toArray []))
noncomputable abbrev obD29 (P : Params) : Obj := (@PySem.Obj.mk @PySem.Value.none none (@PySem.Data.fields (List.toArray [(@PySem.Value.int (@OfNat.ofNat.{0} @Int 3 (@instOfNat 3)) 0), (@PySem.Value.int (@OfNat.ofNat.{0} @Int 0 (@instOfNat 0)) 0), (@PySem.Value.ref 37), (@PySem.Value.int (@OfNat.ofNat.{0} @Int 5 (@instOfNat 5)) 0), (@PySem.Value.int (@OfNat.ofNat.{0} @Int 0 (@instOfNat 0)) 0), (@PySem.Value.ref 50), (@PySem.Value.int (@OfNat.ofNat.{0} @Int 14 (@instOfNat 14)) 0), (@PySem.Value.int (@OfNat.ofNat.{0} @Int 0 (@instOfNat 0)) 0), (@PySem.Value.ref 57)])) (List.toArray []))
noncomputable abbrev obD32 (P : Params) : Obj := (@PySem.Obj.mk (@PySem.Value.type "tuple") none (@PySem.Data.seq (List.toArray [(@PySem.Value.type "ValueError")]) 0) (List.toArray []))
noncomputable abbrev obD33 (P : Params) : Obj := (@PySem.Obj.mk (@PySem.Value.type "builtin_function_or_method") none (@PySem.Data.fields (List.toArray [(@PySem.Value.builtin "type.__prepare__"), (@PySem.Value.type "type")])) (List.toArray []))
noncomputable abbrev obD34 (P : Params) : Obj := (@PySem.Obj.mk (@PySem.Value.type "dict") none (@PySem.Data.dict (List.toArray [(@PySem.DictEntry.mk (@PySem.PyData.keyHash P (Str.ofString "__module__")) (@PySem.Value.str (Str.ofString "__module__") 291) (@PySem.Value.str (Str.ofString "cpy313.statistics") 282)), (@PySem.DictEntry.mk (@PySem.PyData.keyHash P (Str.ofString "__qualname__")) (@PySem.Value.str (Str.ofString "__qualname__") 293) (@PySem.Value.str (Str.ofString "StatisticsError") 292)), (@PySem.DictEntry.mk (@PySem.PyData.keyHash P (Str.ofString "__firstlineno__")) (@PySem.Value.str (Str.ofString "__firstlineno__") 295) (@PySem.Value.int (@OfNat.ofNat.{0} @Int 3 (@instOfNat 3)) 294)), (@PySem.DictEntry.mk (@PySem.PyData.keyHash P (Str.ofString "__static_attributes__")) (@PySem.Value.str (Str.ofString "__static_attributes__") 296) (@PySem.Value.ref 39))]) 4) (List.toArray []))
noncomputable abbrev obD35 (P : Params) : Obj := (@PySem.Obj.mk (@PySem.Value.type "tuple") none (@PySem.Data.seq (List.toArray []) 0) (List.toArray []))
noncomputable abbrev obD36 (P : Params) : Obj := (@PySem.Obj.mk @PySem.Value.none none (@PySem.Data.fields (List.toArray [])) (List.toArray []))
noncomputable abbrev obD37 (P : Params) : Obj := (@PySem.Obj.mk (@PySem.Value.type "code") none (@PySem.Data.fields (List.toArray [(@PySem.Value.str (Str.ofString "StatisticsError") 286), (@PySem.Value.str (Str.ofString "StatisticsError") 287), (@PySem.Value.str (Str.mk (List.toArray [47, 99, 108, 97, 105, 109, 47, 99, 117, 116, 46, 112, 121])) 288), (@PySem.Value.int (@OfNat.ofNat.{0} @Int 3 (@instOfNat 3)) 0), (@PySem.Value.int (@OfNat.ofNat.{0} @Int 0 (@instOfNat 0)) 0), (@PySem.Value.int (@OfNat.ofNat.{0} @Int 0 (@instOfNat 0)) 0), (@PySem.Value.int (@OfNat.ofNat.{0} @Int 0 (@instOfNat 0)) 0), (@PySem.Value.int (@OfNat.ofNat.{0} @Int 0 (@instOfNat 0)) 0), (@PySem.Value.ref 35), (@PySem.Value.bool @Bool.false), (@PySem.Value.int (@OfNat.ofNat.{0} @Int 276 (@instOfNat 276)) 0), (@PySem.Value.ref 36), @PySem.Value.none, @PySem.Value.none, @PySem.Value.none, @PySem.Value.none, (@PySem.Value.int (@OfNat.ofNat.{0} @Int 289 (@instOfNat 289)) 0), (@PySem.Value.int (@OfNat.ofNat.{0} @Int 3 (@instOfNat 3)) 0), (@PySem.Value.str (Str.mk (List.toArray [47, 99, 108, 97, 105, 109, 47, 99, 117, 116, 46, 112, 121])) 290)])) (List.toArray []))
noncomputable abbrev obD38 (P : Params) : Obj := (@PySem.Obj.mk (@PySem.Value.type "frame") none @PySem.Data.plain (List.toArray [(some (@PySem.Value.ref 37)), (some (@PySem.Value.ref 3)), (some (@PySem.Value.ref 34)), none, (some (@PySem.Value.str (Str.ofString "cpy313.statistics") 282)), none, (some (@PySem.Value.ref 0))]))
noncomputable abbrev obD39 (P : Params) : Obj := (@PySem.Obj.mk (@PySem.Value.type "tuple") none (@PySem.Data.seq (List.toArray []) 0) (List.toArray []))
noncomputable abbrev obD40 (P : Params) : Obj := (@PySem.Obj.mk (@PySem.Value.type "dict") none (@PySem.Data.dict (List.toArray [(@PySem.DictEntry.mk (@PySem.PyData.keyHash P (Str.ofString "__module__")) (@PySem.Value.str (Str.ofString "__module__") 291) (@PySem.Value.str (Str.ofString "cpy313.statistics") 282)), (@PySem.DictEntry.mk (@PySem.PyData.keyHash P (Str.ofString "__firstlineno__")) (@PySem.Value.str (Str.ofString "__firstlineno__") 295) (@PySem.Value.int (@OfNat.ofNat.{0} @Int 3 (@instOfNat 3)) 294)), (@PySem.DictEntry.mk (@PySem.PyData.keyHash P (Str.ofString "__static_attributes__")) (@PySem.Value.str (Str.ofString "__static_attributes__") 296) (@PySem.Value.ref 39)), (@PySem.DictEntry.mk (@PySem.PyData.keyHash P (Str.ofString "__weakref__")) (@PySem.Value.str (Str.ofString "__weakref__") 298) (@PySem.Value.ref 42)), (@PySem.DictEntry.mk (@PySem.PyData.keyHash P (Str.ofString "__doc__")) (@PySem.Value.str (Str.ofString "__doc__") 299) @PySem.Value.none)]) 3) (List.toArray []))
noncomputable abbrev obD41 (P : Params) : Obj := (@PySem.Obj.mk (@PySem.Value.type "type") none (@PySem.Data.cls (@PySem.ClassData.mk (Str.ofString "StatisticsError") [(@PySem.Value.type "ValueError")] [(@PySem.Value.ref 41), (@PySem.Value.type "ValueError"), (@PySem.Value.type "Exception"), (@PySem.Value.type "BaseException"), (@PySem.Value.type "object")] 40 (Str.ofString "StatisticsError") @Bool.true [] [] @Bool.false none @Bool.false)) (List.toArray [(some (@PySem.Value.ref 32)), none, (some (@PySem.Value.str (Str.ofString "StatisticsError") 284)), (some (@PySem.Value.str (Str.ofString "StatisticsError") 292)), (some (@PySem.Value.builtin "ValueError.__new__")), (some (@PySem.Value.bool @Bool.true))]))
noncomputable abbrev obD42 (P : Params) : Obj := (@PySem.Obj.mk (@PySem.Value.type "getset_descriptor") none (@PySem.Data.fields (List.toArray [(@PySem.Value.str (Str.ofString "__weakref__") 297), (@PySem.Value.ref 41), (@PySem.Value.builtin "ExceptionGroup.__weakref__"), @PySem.Value.none])) (List.toArray []))
noncomputable abbrev obD43 (P : Params) : Obj := (@PySem.Obj.mk (@PySem.Value.type "super") none (@PySem.Data.fields (List.toArray [(@PySem.Value.ref 41), (@PySem.Value.ref 41), (@PySem.Value.ref 41)])) (List.toArray []))
noncomputable abbrev obD44 (P : Params) : Obj := (@PySem.Obj.mk (@PySem.Value.type "builtin_function_or_method") none (@PySem.Data.fields (List.toArray [(@PySem.Value.builtin "object.__init_subclass__"), (@PySem.Value.ref 41)])) (List.toArray []))
noncomputable abbrev obD45 (P : Params) : Obj := (@PySem.Obj.mk (@PySem.Value.type "tuple") none (@PySem.Data.seq (List.toArray []) 0) (List.toArray []))
noncomputable abbrev obD46 (P : Params) : Obj := (@PySem.Obj.mk @PySem.Value.none none (@PySem.Data.fields (List.toArray [])) (List.toArray []))
noncomputable abbrev obD47 (P : Params) : Obj := (@PySem.Obj.mk (@PySem.Value.type "tuple") none (@PySem.Data.seq (List.toArray [(@PySem.Value.str (Str.ofString "data") 305), (@PySem.Value.str (Str.ofString "n") 306)]) 0) (List.toArray []))
noncomputable abbrev obD48 (P : Params) : Obj := (@PySem.Obj.mk (@PySem.Value.type "tuple") none (@PySem.Data.seq (List.toArray []) 0) (List.toArray []))
noncomputable abbrev obD49 (P : Params) : Obj := (@PySem.Obj.mk @PySem.Value.none none (@PySem.Data.func (fdr 3)) (List.toArray []))
noncomputable abbrev obD50 (P : Params) : Obj := (@PySem.Obj.mk (@PySem.Value.type "code") none (@PySem.Data.fields (List.toArray [(@PySem.Value.str (Str.ofString "median_low") 302), (@PySem.Value.str (Str.ofString "median_low") 303), (@PySem.Value.str (Str.mk (List.toArray [47, 99, 108, 97, 105, 109, 47, 99, 117, 116, 46, 112, 121])) 304), (@PySem.Value.int (@OfNat.ofNat.{0} @Int 5 (@instOfNat 5)) 0), (@PySem.Value.int (@OfNat.ofNat.{0} @Int 1 (@instOfNat 1)) 0), (@PySem.Value.int (@OfNat.ofNat.{0} @Int 0 (@instOfNat 0)) 0), (@PySem.Value.int (@OfNat.ofNat.{0} @Int 0 (@instOfNat 0)) 0), (@PySem.Value.int (@OfNat.ofNat.{0} @Int 3 (@instOfNat 3)) 0), (@PySem.Value.ref 45), (@PySem.Value.bool @Bool.true), (@PySem.Value.int (@OfNat.ofNat.{0} @Int 276 (@instOfNat 276)) 0), (@PySem.Value.ref 46), @PySem.Value.none, (@PySem.Value.ref 47), (@PySem.Value.ref 48), (@PySem.Value.ref 49), (@PySem.Value.int (@OfNat.ofNat.{0} @Int 307 (@instOfNat 307)) 0), (@PySem.Value.int (@OfNat.ofNat.{0} @Int 5 (@instOfNat 5)) 0), (@PySem.Value.str (Str.mk (List.toArray [47, 99, 108, 97, 105, 109, 47, 99, 117, 116, 46, 112, 121])) 308)])) (List.toArray []))
noncomputable abbrev obD51 (P : Params) : Obj := (@PySem.Obj.mk (@PySem.Value.type "function") none (@PySem.Data.func (dfd 3 (@PySem.Value.str (Str.ofString "cpy313.statistics") 282) (@PySem.Value.ref 50) @PySem.Value.none)) (List.toArray []))
noncomputable abbrev obD52 (P : Params) : Obj := (@PySem.Obj.mk (@PySem.Value.type "tuple") none (@PySem.Data.seq (List.toArray []) 0) (List.toArray []))
noncomputable abbrev obD53 (P : Params) : Obj := (@PySem.Obj.mk @PySem.Value.none none (@PySem.Data.fields (List.toArray [])) (List.toArray []))
noncomputable abbrev obD54 (P : Params) : Obj := (@PySem.Obj.mk (@PySem.Value.type "tuple") none (@PySem.Data.seq (List.toArray [(@PySem.Value.str (Str.ofString "data") 313), (@PySem.Value.str (Str.ofString "n") 314)]) 0) (List.toArray []))
noncomputable abbrev obD55 (P : Params) : Obj := (@PySem.Obj.mk (@PySem.Value.type "tuple") none (@PySem.Data.seq (List.toArray []) 0) (List.toArray []))
noncomputable abbrev obD56 (P : Params) : Obj := (@PySem.Obj.mk @PySem.Value.none none (@PySem.Data.func (fdr 4)) (List.toArray []))
noncomputable abbrev obD57 (P : Params) : Obj := (@PySem.Obj.mk (@PySem.Value.type "code") none (@PySem.Data.fields (List.toArray [(@PySem.Value.str (Str.ofString "median_high") 310), (@PySem.Value.str (Str.ofString "median_high") 311), (@PySem.Value.str (Str.mk (List.toArray [47, 99, 108, 97, 105, 109, 47, 99, 117, 116, 46, 112, 121])) 312), (@PySem.Value.int (@OfNat.ofNat.{0} @Int 14 (@instOfNat 14)) 0), (@PySem.Value.int (@OfNat.ofNat.{0} @Int 1 (@instOfNat 1)) 0), (@PySem.Value.int (@OfNat.ofNat.{0} @Int 0 (@instOfNat 0)) 0), (@PySem.Value.int (@OfNat.ofNat.{0} @Int 0 (@instOfNat 0)) 0), (@PySem.Value.int (@OfNat.ofNat.{0} @Int 3 (@instOfNat 3)) 0), (@PySem.Value.ref 52), (@PySem.Value.bool @Bool.true), (@PySem.Value.int (@OfNat.ofNat.{0} @Int 276 (@instOfNat 276)) 0), (@PySem.Value.ref 53), @PySem.Value.none, (@PySem.Value.ref 54), (@PySem.Value.ref 55), (@PySem.Value.ref 56), (@PySem.Value.int (@OfNat.ofNat.{0} @Int 315 (@instOfNat 315)) 0), (@PySem.Value.int (@OfNat.ofNat.{0} @Int 14 (@instOfNat 14)) 0), (@PySem.Value.str (Str.mk (List.toArray [47, 99, 108, 97, 105, 109, 47, 99, 117, 116, 46, 112, 121])) 316)])) (List.toArray []))
noncomputable abbrev obD58 (P : Params) : Obj := (@PySem.Obj.mk (@PySem.Value.type "function") none (@PySem.Data.func (dfd 4 (@PySem.Value.str (Str.ofString "cpy313.statistics") 282) (@PySem.Value.ref 57) @PySem.Value.none)) (List.toArray []))
noncomputable abbrev obD59 (P : Params) : Obj := (@PySem.Obj.mk (@PySem.Value.type "list") none (@PySem.Data.seq (List.toArray [(@PySem.Value.int (@OfNat.ofNat.{0} @Int 14 (@instOfNat 14)) 321), (@PySem.Value.int (@OfNat.ofNat.{0} @Int 14 (@instOfNat 14)) 322), (@PySem.Value.int (@OfNat.ofNat.{0} @Int 4 (@instOfNat 4)) 323), (@PySem.Value.int (@OfNat.ofNat.{0} @Int 1 (@instOfNat 1)) 324), (@PySem.Value.int (@OfNat.ofNat.{0} @Int 1 (@instOfNat 1)) 325), (@PySem.Value.int (@OfNat.ofNat.{0} @Int 9 (@instOfNat 9)) 326), (@PySem.Value.int (@OfNat.ofNat.{0} @Int 0 (@instOfNat 0)) 327), (@PySem.Value.int (@OfNat.ofNat.{0} @Int 64 (@instOfNat 64)) 328), (@PySem.Value.int (@OfNat.ofNat.{0} @Int 0 (@instOfNat 0)) 329), (@PySem.Value.int (@OfNat.ofNat.{0} @Int 1342177280 (@instOfNat 1342177280)) 330), (@PySem.Value.int (@OfNat.ofNat.{0} @Int 0 (@instOfNat 0)) 331), (@PySem.Value.int (@OfNat.ofNat.{0} @Int 0 (@instOfNat 0)) 332), (@PySem.Value.int (@OfNat.ofNat.{0} @Int 0 (@instOfNat 0)) 333), (@PySem.Value.int (@OfNat.ofNat.{0} @Int 0 (@instOfNat 0)) 334), (@PySem.Value.int (@OfNat.ofNat.{0} @Int 0 (@instOfNat 0)) 335), (@PySem.Value.int (@OfNat.ofNat.{0} @Int 17 (@instOfNat 17)) 336), (@PySem.Value.int (@OfNat.ofNat.{0} @Int 0 (@instOfNat 0)) 337), (@PySem.Value.int (@OfNat.ofNat.{0} @Int 13 (@instOfNat 13)) 338), (@PySem.Value.int (@OfNat.ofNat.{0} @Int 11 (@instOfNat 11)) 339), (@PySem.Value.int (@OfNat.ofNat.{0} @Int 9 (@instOfNat 9)) 340), (@PySem.Value.int (@OfNat.ofNat.{0} @Int 0 (@instOfNat 0)) 341), (@PySem.Value.int (@OfNat.ofNat.{0} @Int 64 (@instOfNat 64)) 342), (@PySem.Value.int (@OfNat.ofNat.{0} @Int 0 (@instOfNat 0)) 343), (@PySem.Value.int (@OfNat.ofNat.{0} @Int 1342177280 (@instOfNat 1342177280)) 344), (@PySem.Value.int (@OfNat.ofNat.{0} @Int 0 (@instOfNat 0)) 345), (@PySem.Value.int (@OfNat.ofNat.{0} @Int 0 (@instOfNat 0)) 346), (@PySem.Value.int (@OfNat.ofNat.{0} @Int 0 (@instOfNat 0)) 347), (@PySem.Value.int (@OfNat.ofNat.{0} @Int 0 (@instOfNat 0)) 348), (@PySem.Value.int (@OfNat.ofNat.{0} @Int 0 (@instOfNat 0)) 349), (@PySem.Value.int (@OfNat.ofNat.{0} @Int 17 (@instOfNat 17)) 350), (@PySem.Value.int (@OfNat.ofNat.{0} @Int 1 (@instOfNat 1)) 351), (@PySem.Value.int (@OfNat.ofNat.{0} @Int 1 (@instOfNat 1)) 352)]) 0) (List.toArray []))
noncomputable abbrev obD60 (P : Params) : Obj := (@PySem.Obj.mk (@PySem.Value.type "dict") none (@PySem.Data.dict (List.toArray []) 0) (List.toArray []))
noncomputable abbrev obD61 (P : Params) : Obj := (@PySem.Obj.mk (@PySem.Value.type "tuple") none (@PySem.Data.seq (List.toArray [@PySem.Value.none, @PySem.Value.none]) 0) (List.toArray []))
noncomputable abbrev obD62 (P : Params) : Obj := (@PySem.Obj.mk (@PySem.Value.type "tuple") none (@PySem.Data.seq (List.toArray [(@PySem.Value.int (@OfNat.ofNat.{0} @Int 14 (@instOfNat 14)) 0), (@PySem.Value.int (@OfNat.ofNat.{0} @Int 14 (@instOfNat 14)) 0), (@PySem.Value.int (@OfNat.ofNat.{0} @Int 4 (@instOfNat 4)) 0), (@PySem.Value.int (@OfNat.ofNat.{0} @Int 1 (@instOfNat 1)) 0), (@PySem.Value.int (@OfNat.ofNat.{0} @Int 1 (@instOfNat 1)) 0), (@PySem.Value.int (@OfNat.ofNat.{0} @Int 9 (@instOfNat 9)) 0), (@PySem.Value.int (@OfNat.ofNat.{0} @Int 0 (@instOfNat 0)) 0), (@PySem.Value.int (@OfNat.ofNat.{0} @Int 64 (@instOfNat 64)) 0), (@PySem.Value.int (@OfNat.ofNat.{0} @Int 0 (@instOfNat 0)) 0), (@PySem.Value.int (@OfNat.ofNat.{0} @Int 1342177280 (@instOfNat 1342177280)) 0), (@PySem.Value.int (@OfNat.ofNat.{0} @Int 0 (@instOfNat 0)) 0), (@PySem.Value.int (@OfNat.ofNat.{0} @Int 0 (@instOfNat 0)) 0), (@PySem.Value.int (@OfNat.ofNat.{0} @Int 0 (@instOfNat 0)) 0), (@PySem.Value.int (@OfNat.ofNat.{0} @Int 0 (@instOfNat 0)) 0), (@PySem.Value.int (@OfNat.ofNat.{0} @Int 0 (@instOfNat 0)) 0), (@PySem.Value.int (@OfNat.ofNat.{0} @Int 17 (@instOfNat 17)) 0), (@PySem.Value.int (@OfNat.ofNat.{0} @Int 0 (@instOfNat 0)) 0), (@PySem.Value.int (@OfNat.ofNat.{0} @Int 13 (@instOfNat 13)) 0), (@PySem.Value.int (@OfNat.ofNat.{0} @Int 11 (@instOfNat 11)) 0), (@PySem.Value.int (@OfNat.ofNat.{0} @Int 9 (@instOfNat 9)) 0), (@PySem.Value.int (@OfNat.ofNat.{0} @Int 0 (@instOfNat 0)) 0), (@PySem.Value.int (@OfNat.ofNat.{0} @Int 64 (@instOfNat 64)) 0), (@PySem.Value.int (@OfNat.ofNat.{0} @Int 0 (@instOfNat 0)) 0), (@PySem.Value.int (@OfNat.ofNat.{0} @Int 1342177280 (@instOfNat 1342177280)) 0), (@PySem.Value.int (@OfNat.ofNat.{0} @Int 0 (@instOfNat 0)) 0), (@PySem.Value.int (@OfNat.ofNat.{0} @Int 0 (@instOfNat 0)) 0), (@PySem.Value.int (@OfNat.ofNat.{0} @Int 0 (@instOfNat 0)) 0), (@PySem.Value.int (@OfNat.ofNat.{0} @Int 0 (@instOfNat 0)) 0), (@PySem.Value.int (@OfNat.ofNat.{0} @Int 0 (@instOfNat 0)) 0), (@PySem.Value.int (@OfNat.ofNat.{0} @Int 17 (@instOfNat 17)) 0), (@PySem.Value.int (@OfNat.ofNat.{0} @Int 1 (@instOfNat 1)) 0), (@PySem.Value.int (@OfNat.ofNat.{0} @Int 1 (@instOfNat 1)) 0)]) 0) (List.toArray []))
noncomputable abbrev obD63 (P : Params) : Obj := (@PySem.Obj.mk (@PySem.Value.type "re.Pattern") none (@PySem.Data.fields (List.toArray [(@PySem.Value.str (Str.mk (List.toArray [40, 91, 38, 126, 124, 93, 41])) 319), (@PySem.Value.int (@OfNat.ofNat.{0} @Int 32 (@instOfNat 32)) 354), (@PySem.Value.int (@OfNat.ofNat.{0} @Int 1 (@instOfNat 1)) 0), @PySem.Value.none, @PySem.Value.none, (@PySem.Value.ref 62), (@PySem.Value.int (@OfNat.ofNat.{0} @Int 0 (@instOfNat 0)) 0)])) (List.toArray []))
noncomputable abbrev hpD (P : Params) : Heap := ⟨⟨[obA0 P, obA1 P, obA2 P, obD3 P, obA4 P, obA5 P, obA6 P, obA7 P, obA8 P, obA9 P, obA10 P, obA11 P, obA12 P, obA13 P, obA14 P, obA15 P, obA16 P, obA17 P, obA18 P, obA19 P, obA20 P, obA21 P, obA22 P, obA23 P, obA24 P, obA25 P, obA26 P, obA27 P, obB28 P, obD29 P, obB30 P, obB31 P, obD32 P, obD33 P, obD34 P, obD35 P, obD36 P, obD37 P, obD38 P, obD39 P, obD40 P, obD41 P, obD42 P, obD43 P, obD44 P, obD45 P, obD46 P, obD47 P, obD48 P, obD49 P, obD50 P, obD51 P, obD52 P, obD53 P, obD54 P, obD55 P, obD56 P, obD57 P, obD58 P, obD59 P, obD60 P, obD61 P, obD62 P, obD63 P]⟩, (@PySem.Life.mk [] [] [] 0 [] [] @Bool.false (List.toArray []) [] 0 @Bool.false @Bool.false @Bool.false (@OfNat.ofNat.{0} @Int 0 (@instOfNat 0)) [(@OfNat.ofNat.{0} @Int 2000 (@instOfNat 2000)), (@OfNat.ofNat.{0} @Int 10 (@instOfNat 10)), (@OfNat.ofNat.{0} @Int 10 (@instOfNat 10))] @Bool.false 0 @Bool.true [] [] 0 @Bool.false)⟩
noncomputable abbrev stD (w : World) (os : OsState) : Shared := ⟨hpD w.params, ⟨[]⟩, (@PySem.Drawn.mk 0 0 0 0), 358, os⟩
noncomputable abbrev obE3 (P : Params) : Obj := (@PySem.Obj.mk (@PySem.Value.type "dict") none (@PySem.Data.dict (List.toArray [(@PySem.DictEntry.mk (@PySem.PyData.keyHash P (Str.ofString "__name__")) (@PySem.Value.str (Str.ofString "__name__") 165) (@PySem.Value.str (Str.ofString "re") 356)), (@PySem.DictEntry.mk (@PySem.PyData.keyHash P (Str.ofString "__doc__")) (@PySem.Value.str (Str.ofString "__doc__") 166) @PySem.Value.none), (@PySem.DictEntry.mk (@PySem.PyData.keyHash P (Str.ofString "__package__")) (@PySem.Value.str (Str.ofString "__package__") 167) @PySem.Value.none), (@PySem.DictEntry.mk (@PySem.PyData.keyHash P (Str.ofString "__loader__")) (@PySem.Value.str (Str.ofString "__loader__") 168) (@PySem.Value.builtin "__main__.__loader__#opaque")), (@PySem.DictEntry.mk (@PySem.PyData.keyHash P (Str.ofString "__spec__")) (@PySem.Value.str (Str.ofString "__spec__") 169) @PySem.Value.none), (@PySem.DictEntry.mk (@PySem.PyData.keyHash P (Str.ofString "__annotations__")) (@PySem.Value.str (Str.ofString "__annotations__") 170) (@PySem.Value.ref 6)), (@PySem.DictEntry.mk (@PySem.PyData.keyHash P (Str.ofString "__builtins__")) (@PySem.Value.str (Str.ofString "__builtins__") 171) (@PySem.Value.ref 4)), (@PySem.DictEntry.mk (@PySem.PyData.keyHash P (Str.ofString "__file__")) (@PySem.Value.str (Str.ofString "__file__") 173) (@PySem.Value.str (Str.mk (List.toArray [47, 99, 108, 97, 105, 109, 47, 99, 117, 116, 46, 112, 121])) 172)), (@PySem.DictEntry.mk (@PySem.PyData.keyHash P (Str.ofString "__cached__")) (@PySem.Value.str (Str.ofString "__cached__") 174) @PySem.Value.none), (@PySem.DictEntry.mk (@PySem.PyData.keyHash P (Str.ofString "_sre")) (@PySem.Value.str (Str.ofString "_sre") 275) (@PySem.Value.ref 12)), (@PySem.DictEntry.mk (@PySem.PyData.keyHash P (Str.ofString "StatisticsError")) (@PySem.Value.str (Str.ofString "StatisticsError") 301) (@PySem.Value.ref 41)), (@PySem.DictEntry.mk (@PySem.PyData.keyHash P (Str.ofString "median_low")) (@PySem.Value.str (Str.ofString "median_low") 309) (@PySem.Value.ref 51)), (@PySem.DictEntry.mk (@PySem.PyData.keyHash P (Str.ofString "median_high")) (@PySem.Value.str (Str.ofString "median_high") 317) (@PySem.Value.ref 58)), (@PySem.DictEntry.mk (@PySem.PyData.keyHash P (Str.ofString "_twin_re_1")) (@PySem.Value.str (Str.ofString "_twin_re_1") 355) (@PySem.Value.ref 63)), (@PySem.DictEntry.mk (@PySem.PyData.keyHash P (Str.ofString "_special_chars_map")) (@PySem.Value.str (Str.ofString "_special_chars_map") 503) (@PySem.Value.ref 65))]) 15) (List.toArray []))
noncomputable abbrev obE64 (P : Params) : Obj := (@PySem.Obj.mk (@PySem.Value.type "bytes_iterator") none (@PySem.Data.fields (List.toArray [@PySem.Value.none, (@PySem.Value.int (@OfNat.ofNat.{0} @Int 24 (@instOfNat 24)) 0)])) (List.toArray []))
noncomputable abbrev obE65 (P : Params) : Obj := (@PySem.Obj.mk (@PySem.Value.type "dict") none (@PySem.Data.dict (List.toArray [(@PySem.DictEntry.mk (@OfNat.ofNat.{0} @Int 40 (@instOfNat 40)) (@PySem.Value.int (@OfNat.ofNat.{0} @Int 40 (@instOfNat 40)) 359) (@PySem.Value.str (Str.mk (List.toArray [92, 40])) 363)), (@PySem.DictEntry.mk (@OfNat.ofNat.{0} @Int 41 (@instOfNat 41)) (@PySem.Value.int (@OfNat.ofNat.{0} @Int 41 (@instOfNat 41)) 365) (@PySem.Value.str (Str.mk (List.toArray [92, 41])) 369)), (@PySem.DictEntry.mk (@OfNat.ofNat.{0} @Int 91 (@instOfNat 91)) (@PySem.Value.int (@OfNat.ofNat.{0} @Int 91 (@instOfNat 91)) 371) (@PySem.Value.str (Str.mk (List.toArray [92, 91])) 375)), (@PySem.DictEntry.mk (@OfNat.ofNat.{0} @Int 93 (@instOfNat 93)) (@PySem.Value.int (@OfNat.ofNat.{0} @Int 93 (@instOfNat 93)) 377) (@PySem.Value.str (Str.mk (List.toArray [92, 93])) 381)), (@PySem.DictEntry.mk (@OfNat.ofNat.{0} @Int 123 (@instOfNat 123)) (@PySem.Value.int (@OfNat.ofNat.{0} @Int 123 (@instOfNat 123)) 383) (@PySem.Value.str (Str.mk (List.toArray [92, 123])) 387)), (@PySem.DictEntry.mk (@OfNat.ofNat.{0} @Int 125 (@instOfNat 125)) (@PySem.Value.int (@OfNat.ofNat.{0} @Int 125 (@instOfNat 125)) 389) (@PySem.Value.str (Str.mk (List.toArray [92, 125])) 393)), (@PySem.DictEntry.mk (@OfNat.ofNat.{0} @Int 63 (@instOfNat 63)) (@PySem.Value.int (@OfNat.ofNat.{0} @Int 63 (@instOfNat 63)) 395) (@PySem.Value.str (Str.mk (List.toArray [92, 63])) 399)), (@PySem.DictEntry.mk (@OfNat.ofNat.{0} @Int 42 (@instOfNat 42)) (@PySem.Value.int (@OfNat.ofNat.{0} @Int 42 (@instOfNat 42)) 401) (@PySem.Value.str (Str.mk (List.toArray [92, 42])) 405)), (@PySem.DictEntry.mk (@OfNat.ofNat.{0} @Int 43 (@instOfNat 43)) (@PySem.Value.int (@OfNat.ofNat.{0} @Int 43 (@instOfNat 43)) 407) (@PySem.Value.str (Str.mk (List.toArray [92, 43])) 411)), (@PySem.DictEntry.mk (@OfNat.ofNat.{0} @Int 45 (@instOfNat 45)) (@PySem.Value.int (@OfNat.ofNat.{0} @Int 45 (@instOfNat 45)) 413) (@PySem.Value.str (Str.mk (List.toArray [92, 45])) 417)), (@PySem.DictEntry.mk (@OfNat.ofNat.{0} @Int 124 (@instOfNat 124)) (@PySem.Value.int (@OfNat.ofNat.{0} @Int 124 (@instOfNat 124)) 419) (@PySem.Value.str (Str.mk (List.toArray [92, 124])) 423)), (@PySem.DictEntry.mk (@OfNat.ofNat.{0} @Int 94 (@instOfNat 94)) (@PySem.Value.int (@OfNat.ofNat.{0} @Int 94 (@instOfNat 94)) 425) (@PySem.Value.str (Str.mk (List.toArray [92, 94])) 429)), (@PySem.DictEntry.mk (@OfNat.ofNat.{0} @Int 36 (@instOfNat 36)) (@PySem.Value.int (@OfNat.ofNat.{0} @Int 36 (@instOfNat 36)) 431) (@PySem.Value.str (Str.mk (List.toArray [92, 36])) 435)), (@PySem.DictEntry.mk (@OfNat.ofNat.{0} @Int 92 (@instOfNat 92)) (@PySem.Value.int (@OfNat.ofNat.{0} @Int 92 (@instOfNat 92)) 437) (@PySem.Value.str (Str.mk (List.toArray [92, 92])) 441)), (@PySem.DictEntry.mk (@OfNat.ofNat.{0} @Int 46 (@instOfNat 46)) (@PySem.Value.int (@OfNat.ofNat.{0} @Int 46 (@instOfNat 46)) 443) (@PySem.Value.str (Str.mk (List.toArray [92, 46])) 447)), (@PySem.DictEntry.mk (@OfNat.ofNat.{0} @Int 38 (@instOfNat 38)) (@PySem.Value.int (@OfNat.ofNat.{0} @Int 38 (@instOfNat 38)) 449) (@PySem.Value.str (Str.mk (List.toArray [92, 38])) 453)), (@PySem.DictEntry.mk (@OfNat.ofNat.{0} @Int 126 (@instOfNat 126)) (@PySem.Value.int (@OfNat.ofNat.{0} @Int 126 (@instOfNat 126)) 455) (@PySem.Value.str (Str.mk (List.toArray [92, 126])) 459)), (@PySem.DictEntry.mk (@OfNat.ofNat.{0} @Int 35 (@instOfNat 35)) (@PySem.Value.int (@OfNat.ofNat.{0} @Int 35 (@instOfNat 35)) 461) (@PySem.Value.str (Str.mk (List.toArray [92, 35])) 465)), (@PySem.DictEntry.mk (@OfNat.ofNat.{0} @Int 32 (@instOfNat 32)) (@PySem.Value.int (@OfNat.ofNat.{0} @Int 32 (@instOfNat 32)) 467) (@PySem.Value.str (Str.mk (List.toArray [92, 32])) 471)), (@PySem.DictEntry.mk (@OfNat.ofNat.{0} @Int 9 (@instOfNat 9)) (@PySem.Value.int (@OfNat.ofNat.{0} @Int 9 (@instOfNat 9)) 473) (@PySem.Value.str (Str.mk (List.toArray [92, 9])) 477)), (@PySem.DictEntry.mk (@OfNat.ofNat.{0} @Int 10 (@instOfNat 10)) (@PySem.Value.int (@OfNat.ofNat.{0} @Int 10 (@instOfNat 10)) 479) (@PySem.Value.str (Str.mk (List.toArray [92, 10])) 483)), (@PySem.DictEntry.mk (@OfNat.ofNat.{0} @Int 13 (@instOfNat 13)) (@PySem.Value.int (@OfNat.ofNat.{0} @Int 13 (@instOfNat 13)) 485) (@PySem.Value.str (Str.mk (List.toArray [92, 13])) 489)), (@PySem.DictEntry.mk (@OfNat.ofNat.{0} @Int 11 (@instOfNat 11)) (@PySem.Value.int (@OfNat.ofNat.{0} @Int 11 (@instOfNat 11)) 491) (@PySem.Value.str (Str.mk (List.toArray [92, 11])) 495)), (@PySem.DictEntry.mk (@OfNat.ofNat.{0} @Int 12 (@instOfNat 12)) (@PySem.Value.int (@OfNat.ofNat.{0} @Int 12 (@instOfNat 12)) 497) (@PySem.Value.str (Str.mk (List.toArray [92, 12])) 501))]) 24) (List.toArray []))
noncomputable abbrev obE66 (P : Params) : Obj := (@PySem.Obj.mk (@PySem.Value.type "dict") none (@PySem.Data.dict (List.toArray []) 2) (List.toArray []))
noncomputable abbrev obE67 (P : Params) : Obj := (@PySem.Obj.mk (@PySem.Value.type "tuple") none (@PySem.Data.seq (List.toArray []) 0) (List.toArray []))
noncomputable abbrev obE68 (P : Params) : Obj := (@PySem.Obj.mk (@PySem.Value.type "StopIteration") none (@PySem.Data.fields (List.toArray [(@PySem.Value.ref 67), @PySem.Value.none, @PySem.Value.none, @PySem.Value.none, (@PySem.Value.bool @Bool.false), @PySem.Value.none])) (List.toArray []))
noncomputable abbrev hpE (P : Params) : Heap := ⟨⟨[obA0 P, obA1 P, obA2 P, obE3 P, obA4 P, obA5 P, obA6 P, obA7 P, obA8 P, obA9 P, obA10 P, obA11 P, obA12 P, obA13 P, obA14 P, obA15 P, obA16 P, obA17 P, obA18 P, obA19 P, obA20 P, obA21 P, obA22 P, obA23 P, obA24 P, obA25 P, obA26 P, obA27 P, obB28 P, obD29 P, obB30 P, obB31 P, obD32 P, obD33 P, obD34 P, obD35 P, obD36 P, obD37 P, obD38 P, obD39 P, obD40 P, obD41 P, obD42 P, obD43 P, obD44 P, obD45 P, obD46 P, obD47 P, obD48 P, obD49 P, obD50 P, obD51 P, obD52 P, obD53 P, obD54 P, obD55 P, obD56 P, obD57 P, obD58 P, obD59 P, obD60 P, obD61 P, obD62 P, obD63 P, obE64 P, obE65 P, obE66 P, obE67 P, obE68 P]⟩, (@PySem.Life.mk [] [] [] 0 [] [] @Bool.false (List.toArray []) [] 0 @Bool.false @Bool.false @Bool.false (@OfNat.ofNat.{0} @Int 0 (@instOfNat 0)) [(@OfNat.ofNat.{0} @Int 2000 (@instOfNat 2000)), (@OfNat.ofNat.{0} @Int 10 (@instOfNat 10)), (@OfNat.ofNat.{0} @Int 10 (@instOfNat 10))] @Bool.false 0 @Bool.true [] [] 0 @Bool.false)⟩
noncomputable abbrev stE (w : World) (os : OsState) : Shared := ⟨hpE w.params, ⟨[]⟩, (@PySem.Drawn.mk 0 0 0 0), 504, os⟩
noncomputable abbrev obF3 (P : Params) : Obj := (@PySem.Obj.mk (@PySem.Value.type "dict") none (@PySem.Data.dict (List.toArray [(@PySem.DictEntry.mk (@PySem.PyData.keyHash P (Str.ofString "__name__")) (@PySem.Value.str (Str.ofString "__name__") 165) (@PySem.Value.str (Str.ofString "law_rx0039_01") 575)), (@PySem.DictEntry.mk (@PySem.PyData.keyHash P (Str.ofString "__doc__")) (@PySem.Value.str (Str.ofString "__doc__") 166) @PySem.Value.none), (@PySem.DictEntry.mk (@PySem.PyData.keyHash P (Str.ofString "__package__")) (@PySem.Value.str (Str.ofString "__package__") 167) @PySem.Value.none), (@PySem.DictEntry.mk (@PySem.PyData.keyHash P (Str.ofString "__loader__")) (@PySem.Value.str (Str.ofString "__loader__") 168) (@PySem.Value.builtin "__main__.__loader__#opaque")), (@PySem.DictEntry.mk (@PySem.PyData.keyHash P (Str.ofString "__spec__")) (@PySem.Value.str (Str.ofString "__spec__") 169) @PySem.Value.none), (@PySem.DictEntry.mk (@PySem.PyData.keyHash P (Str.ofString "__annotations__")) (@PySem.Value.str (Str.ofString "__annotations__") 170) (@PySem.Value.ref 6)), (@PySem.DictEntry.mk (@PySem.PyData.keyHash P (Str.ofString "__builtins__")) (@PySem.Value.str (Str.ofString "__builtins__") 171) (@PySem.Value.ref 4)), (@PySem.DictEntry.mk (@PySem.PyData.keyHash P (Str.ofString "__file__")) (@PySem.Value.str (Str.ofString "__file__") 173) (@PySem.Value.str (Str.mk (List.toArray [47, 99, 108, 97, 105, 109, 47, 99, 117, 116, 46, 112, 121])) 172)), (@PySem.DictEntry.mk (@PySem.PyData.keyHash P (Str.ofString "__cached__")) (@PySem.Value.str (Str.ofString "__cached__") 174) @PySem.Value.none), (@PySem.DictEntry.mk (@PySem.PyData.keyHash P (Str.ofString "_sre")) (@PySem.Value.str (Str.ofString "_sre") 275) (@PySem.Value.ref 12)), (@PySem.DictEntry.mk (@PySem.PyData.keyHash P (Str.ofString "StatisticsError")) (@PySem.Value.str (Str.ofString "StatisticsError") 301) (@PySem.Value.ref 41)), (@PySem.DictEntry.mk (@PySem.PyData.keyHash P (Str.ofString "median_low")) (@PySem.Value.str (Str.ofString "median_low") 309) (@PySem.Value.ref 51)), (@PySem.DictEntry.mk (@PySem.PyData.keyHash P (Str.ofString "median_high")) (@PySem.Value.str (Str.ofString "median_high") 317) (@PySem.Value.ref 58)), (@PySem.DictEntry.mk (@PySem.PyData.keyHash P (Str.ofString "_twin_re_1")) (@PySem.Value.str (Str.ofString "_twin_re_1") 355) (@PySem.Value.ref 63)), (@PySem.DictEntry.mk (@PySem.PyData.keyHash P (Str.ofString "_special_chars_map")) (@PySem.Value.str (Str.ofString "_special_chars_map") 503) (@PySem.Value.ref 65)), (@PySem.DictEntry.mk (@PySem.PyData.keyHash P (Str.ofString "escape")) (@PySem.Value.str (Str.ofString "escape") 510) (@PySem.Value.ref 75)), (@PySem.DictEntry.mk (@PySem.PyData.keyHash P (Str.ofString "_translate")) (@PySem.Value.str (Str.ofString "_translate") 531) (@PySem.Value.ref 82)), (@PySem.DictEntry.mk (@PySem.PyData.keyHash P (Str.ofString "heappush")) (@PySem.Value.str (Str.ofString "heappush") 541) (@PySem.Value.ref 89)), (@PySem.DictEntry.mk (@PySem.PyData.keyHash P (Str.ofString "heappushpop")) (@PySem.Value.str (Str.ofString "heappushpop") 549) (@PySem.Value.ref 96)), (@PySem.DictEntry.mk (@PySem.PyData.keyHash P (Str.ofString "_siftdown")) (@PySem.Value.str (Str.ofString "_siftdown") 561) (@PySem.Value.ref 103)), (@PySem.DictEntry.mk (@PySem.PyData.keyHash P (Str.ofString "_siftup")) (@PySem.Value.str (Str.ofString "_siftup") 574) (@PySem.Value.ref 110)), (@PySem.DictEntry.mk (@PySem.PyData.keyHash P (Str.ofString "_law_sign")) (@PySem.Value.str (Str.ofString "_law_sign") 586) (@PySem.Value.ref 117)), (@PySem.DictEntry.mk (@PySem.PyData.keyHash P (Str.ofString "_law_meant")) (@PySem.Value.str (Str.ofString "_law_meant") 592) (@PySem.Value.ref 122)), (@PySem.DictEntry.mk (@PySem.PyData.keyHash P (Str.ofString "_law_letters")) (@PySem.Value.str (Str.ofString "_law_letters") 598) (@PySem.Value.ref 127)), (@PySem.DictEntry.mk (@PySem.PyData.keyHash P (Str.ofString "_law_by_heaps")) (@PySem.Value.str (Str.ofString "_law_by_heaps") 604) (@PySem.Value.ref 132)), (@PySem.DictEntry.mk (@PySem.PyData.keyHash P (Str.ofString "_law_by_counting")) (@PySem.Value.str (Str.ofString "_law_by_counting") 610) (@PySem.Value.ref 137)), (@PySem.DictEntry.mk (@PySem.PyData.keyHash P (Str.ofString "law")) (@PySem.Value.str (Str.ofString "law") 616) (@PySem.Value.ref 142))]) 27) (List.toArray []))
noncomputable abbrev obF29 (P : Params) : Obj := (@PySem.Obj.mk @PySem.Value.none none (@PySem.Data.fields (List.toArray [(@PySem.Value.int (@OfNat.ofNat.{0} @Int 3 (@instOfNat 3)) 0), (@PySem.Value.int (@OfNat.ofNat.{0} @Int 0 (@instOfNat 0)) 0), (@PySem.Value.ref 37), (@PySem.Value.int (@OfNat.ofNat.{0} @Int 5 (@instOfNat 5)) 0), (@PySem.Value.int (@OfNat.ofNat.{0} @Int 0 (@instOfNat 0)) 0), (@PySem.Value.ref 50), (@PySem.Value.int (@OfNat.ofNat.{0} @Int 14 (@instOfNat 14)) 0), (@PySem.Value.int (@OfNat.ofNat.{0} @Int 0 (@instOfNat 0)) 0), (@PySem.Value.ref 57), (@PySem.Value.int (@OfNat.ofNat.{0} @Int 23 (@instOfNat 23)) 0), (@PySem.Value.int (@OfNat.ofNat.{0} @Int 0 (@instOfNat 0)) 0), (@PySem.Value.ref 74), (@PySem.Value.int (@OfNat.ofNat.{0} @Int 30 (@instOfNat 30)) 0), (@PySem.Value.int (@OfNat.ofNat.{0} @Int 0 (@instOfNat 0)) 0), (@PySem.Value.ref 81), (@PySem.Value.int (@OfNat.ofNat.{0} @Int 93 (@instOfNat 93)) 0), (@PySem.Value.int (@OfNat.ofNat.{0} @Int 0 (@instOfNat 0)) 0), (@PySem.Value.ref 88), (@PySem.Value.int (@OfNat.ofNat.{0} @Int 96 (@instOfNat 96)) 0), (@PySem.Value.int (@OfNat.ofNat.{0} @Int 0 (@instOfNat 0)) 0), (@PySem.Value.ref 95), (@PySem.Value.int (@OfNat.ofNat.{0} @Int 101 (@instOfNat 101)) 0), (@PySem.Value.int (@OfNat.ofNat.{0} @Int 0 (@instOfNat 0)) 0), (@PySem.Value.ref 102), (@PySem.Value.int (@OfNat.ofNat.{0} @Int 112 (@instOfNat 112)) 0), (@PySem.Value.int (@OfNat.ofNat.{0} @Int 0 (@instOfNat 0)) 0), (@PySem.Value.ref 109), (@PySem.Value.int (@OfNat.ofNat.{0} @Int 127 (@instOfNat 127)) 0), (@PySem.Value.int (@OfNat.ofNat.{0} @Int 0 (@instOfNat 0)) 0), (@PySem.Value.ref 116), (@PySem.Value.int (@OfNat.ofNat.{0} @Int 132 (@instOfNat 132)) 0), (@PySem.Value.int (@OfNat.ofNat.{0} @Int 0 (@instOfNat 0)) 0), (@PySem.Value.ref 121), (@PySem.Value.int (@OfNat.ofNat.{0} @Int 137 (@instOfNat 137)) 0), (@PySem.Value.int (@OfNat.ofNat.{0} @Int 0 (@instOfNat 0)) 0), (@PySem.Value.ref 126), (@PySem.Value.int (@OfNat.ofNat.{0} @Int 145 (@instOfNat 145)) 0), (@PySem.Value.int (@OfNat.ofNat.{0} @Int 0 (@instOfNat 0)) 0), (@PySem.Value.ref 131), (@PySem.Value.int (@OfNat.ofNat.{0} @Int 159 (@instOfNat 159)) 0), (@PySem.Value.int (@OfNat.ofNat.{0} @Int 0 (@instOfNat 0)) 0), (@PySem.Value.ref 136), (@PySem.Value.int (@OfNat.ofNat.{0} @Int 169 (@instOfNat 169)) 0), (@PySem.Value.int (@OfNat.ofNat.{0} @Int 0 (@instOfNat 0)) 0), (@PySem.Value.ref 141)])) (List.toArray []))
noncomputable abbrev obF69 (P : Params) : Obj := (@PySem.Obj.mk (@PySem.Value.type "tuple") none (@PySem.Data.seq (List.toArray []) 0) (List.toArray []))
noncomputable abbrev obF70 (P : Params) : Obj := (@PySem.Obj.mk @PySem.Value.none none (@PySem.Data.fields (List.toArray [])) (List.toArray []))
noncomputable abbrev obF71 (P : Params) : Obj := (@PySem.Obj.mk (@PySem.Value.type "tuple") none (@PySem.Data.seq (List.toArray [(@PySem.Value.str (Str.ofString "pattern") 507)]) 0) (List.toArray []))
noncomputable abbrev obF72 (P : Params) : Obj := (@PySem.Obj.mk (@PySem.Value.type "tuple") none (@PySem.Data.seq (List.toArray []) 0) (List.toArray []))
noncomputable abbrev obF73 (P : Params) : Obj := (@PySem.Obj.mk @PySem.Value.none none (@PySem.Data.func (fdr 8)) (List.toArray []))
noncomputable abbrev obF74 (P : Params) : Obj := (@PySem.Obj.mk (@PySem.Value.type "code") none (@PySem.Data.fields (List.toArray [(@PySem.Value.str (Str.ofString "escape") 504), (@PySem.Value.str (Str.ofString "escape") 505), (@PySem.Value.str (Str.mk (List.toArray [47, 99, 108, 97, 105, 109, 47, 99, 117, 116, 46, 112, 121])) 506), (@PySem.Value.int (@OfNat.ofNat.{0} @Int 23 (@instOfNat 23)) 0), (@PySem.Value.int (@OfNat.ofNat.{0} @Int 1 (@instOfNat 1)) 0), (@PySem.Value.int (@OfNat.ofNat.{0} @Int 0 (@instOfNat 0)) 0), (@PySem.Value.int (@OfNat.ofNat.{0} @Int 0 (@instOfNat 0)) 0), (@PySem.Value.int (@OfNat.ofNat.{0} @Int 3 (@instOfNat 3)) 0), (@PySem.Value.ref 69), (@PySem.Value.bool @Bool.true), (@PySem.Value.int (@OfNat.ofNat.{0} @Int 276 (@instOfNat 276)) 0), (@PySem.Value.ref 70), @PySem.Value.none, (@PySem.Value.ref 71), (@PySem.Value.ref 72), (@PySem.Value.ref 73), (@PySem.Value.int (@OfNat.ofNat.{0} @Int 508 (@instOfNat 508)) 0), (@PySem.Value.int (@OfNat.ofNat.{0} @Int 23 (@instOfNat 23)) 0), (@PySem.Value.str (Str.mk (List.toArray [47, 99, 108, 97, 105, 109, 47, 99, 117, 116, 46, 112, 121])) 509)])) (List.toArray []))
noncomputable abbrev obF75 (P : Params) : Obj := (@PySem.Obj.mk (@PySem.Value.type "function") none (@PySem.Data.func (dfd 8 (@PySem.Value.str (Str.ofString "re") 356) (@PySem.Value.ref 74) @PySem.Value.none)) (List.toArray []))
noncomputable abbrev obF76 (P : Params) : Obj := (@PySem.Obj.mk (@PySem.Value.type "tuple") none (@PySem.Data.seq (List.toArray []) 0) (List.toArray []))
noncomputable abbrev obF77 (P : Params) : Obj := (@PySem.Obj.mk @PySem.Value.none none (@PySem.Data.fields (List.toArray [])) (List.toArray []))
noncomputable abbrev obF78 (P : Params) : Obj := (@PySem.Obj.mk (@PySem.Value.type "tuple") none (@PySem.Data.seq (List.toArray [(@PySem.Value.str (Str.ofString "pat") 516), (@PySem.Value.str (Str.ofString "STAR") 517), (@PySem.Value.str (Str.ofString "QUESTION_MARK") 518), (@PySem.Value.str (Str.ofString "res") 519), (@PySem.Value.str (Str.ofString "add") 520), (@PySem.Value.str (Str.ofString "i") 521), (@PySem.Value.str (Str.ofString "n") 522), (@PySem.Value.str (Str.ofString "c") 523), (@PySem.Value.str (Str.ofString "j") 524), (@PySem.Value.str (Str.ofString "stuff") 525), (@PySem.Value.str (Str.ofString "chunks") 526), (@PySem.Value.str (Str.ofString "k") 527), (@PySem.Value.str (Str.ofString "chunk") 528)]) 0) (List.toArray []))
noncomputable abbrev obF79 (P : Params) : Obj := (@PySem.Obj.mk (@PySem.Value.type "tuple") none (@PySem.Data.seq (List.toArray []) 0) (List.toArray []))
noncomputable abbrev obF80 (P : Params) : Obj := (@PySem.Obj.mk @PySem.Value.none none (@PySem.Data.func (fdr 10)) (List.toArray []))
noncomputable abbrev obF81 (P : Params) : Obj := (@PySem.Obj.mk (@PySem.Value.type "code") none (@PySem.Data.fields (List.toArray [(@PySem.Value.str (Str.ofString "_translate") 513), (@PySem.Value.str (Str.ofString "_translate") 514), (@PySem.Value.str (Str.mk (List.toArray [47, 99, 108, 97, 105, 109, 47, 99, 117, 116, 46, 112, 121])) 515), (@PySem.Value.int (@OfNat.ofNat.{0} @Int 30 (@instOfNat 30)) 0), (@PySem.Value.int (@OfNat.ofNat.{0} @Int 3 (@instOfNat 3)) 0), (@PySem.Value.int (@OfNat.ofNat.{0} @Int 0 (@instOfNat 0)) 0), (@PySem.Value.int (@OfNat.ofNat.{0} @Int 0 (@instOfNat 0)) 0), (@PySem.Value.int (@OfNat.ofNat.{0} @Int 3 (@instOfNat 3)) 0), (@PySem.Value.ref 76), (@PySem.Value.bool @Bool.true), (@PySem.Value.int (@OfNat.ofNat.{0} @Int 276 (@instOfNat 276)) 0), (@PySem.Value.ref 77), @PySem.Value.none, (@PySem.Value.ref 78), (@PySem.Value.ref 79), (@PySem.Value.ref 80), (@PySem.Value.int (@OfNat.ofNat.{0} @Int 529 (@instOfNat 529)) 0), (@PySem.Value.int (@OfNat.ofNat.{0} @Int 30 (@instOfNat 30)) 0), (@PySem.Value.str (Str.mk (List.toArray [47, 99, 108, 97, 105, 109, 47, 99, 117, 116, 46, 112, 121])) 530)])) (List.toArray []))
noncomputable abbrev obF82 (P : Params) : Obj := (@PySem.Obj.mk (@PySem.Value.type "function") none (@PySem.Data.func (dfd 10 (@PySem.Value.str (Str.ofString "cpy313.fnmatch") 511) (@PySem.Value.ref 81) @PySem.Value.none)) (List.toArray []))
noncomputable abbrev obF83 (P : Params) : Obj := (@PySem.Obj.mk (@PySem.Value.type "tuple") none (@PySem.Data.seq (List.toArray []) 0) (List.toArray []))
noncomputable abbrev obF84 (P : Params) : Obj := (@PySem.Obj.mk @PySem.Value.none none (@PySem.Data.fields (List.toArray [])) (List.toArray []))
noncomputable abbrev obF85 (P : Params) : Obj := (@PySem.Obj.mk (@PySem.Value.type "tuple") none (@PySem.Data.seq (List.toArray [(@PySem.Value.str (Str.ofString "heap") 537), (@PySem.Value.str (Str.ofString "item") 538)]) 0) (List.toArray []))
noncomputable abbrev obF86 (P : Params) : Obj := (@PySem.Obj.mk (@PySem.Value.type "tuple") none (@PySem.Data.seq (List.toArray []) 0) (List.toArray []))
noncomputable abbrev obF87 (P : Params) : Obj := (@PySem.Obj.mk @PySem.Value.none none (@PySem.Data.func (fdr 12)) (List.toArray []))
noncomputable abbrev obF88 (P : Params) : Obj := (@PySem.Obj.mk (@PySem.Value.type "code") none (@PySem.Data.fields (List.toArray [(@PySem.Value.str (Str.ofString "heappush") 534), (@PySem.Value.str (Str.ofString "heappush") 535), (@PySem.Value.str (Str.mk (List.toArray [47, 99, 108, 97, 105, 109, 47, 99, 117, 116, 46, 112, 121])) 536), (@PySem.Value.int (@OfNat.ofNat.{0} @Int 93 (@instOfNat 93)) 0), (@PySem.Value.int (@OfNat.ofNat.{0} @Int 2 (@instOfNat 2)) 0), (@PySem.Value.int (@OfNat.ofNat.{0} @Int 0 (@instOfNat 0)) 0), (@PySem.Value.int (@OfNat.ofNat.{0} @Int 0 (@instOfNat 0)) 0), (@PySem.Value.int (@OfNat.ofNat.{0} @Int 3 (@instOfNat 3)) 0), (@PySem.Value.ref 83), (@PySem.Value.bool @Bool.true), (@PySem.Value.int (@OfNat.ofNat.{0} @Int 276 (@instOfNat 276)) 0), (@PySem.Value.ref 84), @PySem.Value.none, (@PySem.Value.ref 85), (@PySem.Value.ref 86), (@PySem.Value.ref 87), (@PySem.Value.int (@OfNat.ofNat.{0} @Int 539 (@instOfNat 539)) 0), (@PySem.Value.int (@OfNat.ofNat.{0} @Int 93 (@instOfNat 93)) 0), (@PySem.Value.str (Str.mk (List.toArray [47, 99, 108, 97, 105, 109, 47, 99, 117, 116, 46, 112, 121])) 540)])) (List.toArray []))
noncomputable abbrev obF89 (P : Params) : Obj := (@PySem.Obj.mk (@PySem.Value.type "function") none (@PySem.Data.func (dfd 12 (@PySem.Value.str (Str.ofString "cpy313.heapq") 532) (@PySem.Value.ref 88) @PySem.Value.none)) (List.toArray []))
noncomputable abbrev obF90 (P : Params) : Obj := (@PySem.Obj.mk (@PySem.Value.type "tuple") none (@PySem.Data.seq (List.toArray []) 0) (List.toArray []))
noncomputable abbrev obF91 (P : Params) : Obj := (@PySem.Obj.mk @PySem.Value.none none (@PySem.Data.fields (List.toArray [])) (List.toArray []))
noncomputable abbrev obF92 (P : Params) : Obj := (@PySem.Obj.mk (@PySem.Value.type "tuple") none (@PySem.Data.seq (List.toArray [(@PySem.Value.str (Str.ofString "heap") 545), (@PySem.Value.str (Str.ofString "item") 546)]) 0) (List.toArray []))
noncomputable abbrev obF93 (P : Params) : Obj := (@PySem.Obj.mk (@PySem.Value.type "tuple") none (@PySem.Data.seq (List.toArray []) 0) (List.toArray []))
noncomputable abbrev obF94 (P : Params) : Obj := (@PySem.Obj.mk @PySem.Value.none none (@PySem.Data.func (fdr 13)) (List.toArray []))
noncomputable abbrev obF95 (P : Params) : Obj := (@PySem.Obj.mk (@PySem.Value.type "code") none (@PySem.Data.fields (List.toArray [(@PySem.Value.str (Str.ofString "heappushpop") 542), (@PySem.Value.str (Str.ofString "heappushpop") 543), (@PySem.Value.str (Str.mk (List.toArray [47, 99, 108, 97, 105, 109, 47, 99, 117, 116, 46, 112, 121])) 544), (@PySem.Value.int (@OfNat.ofNat.{0} @Int 96 (@instOfNat 96)) 0), (@PySem.Value.int (@OfNat.ofNat.{0} @Int 2 (@instOfNat 2)) 0), (@PySem.Value.int (@OfNat.ofNat.{0} @Int 0 (@instOfNat 0)) 0), (@PySem.Value.int (@OfNat.ofNat.{0} @Int 0 (@instOfNat 0)) 0), (@PySem.Value.int (@OfNat.ofNat.{0} @Int 3 (@instOfNat 3)) 0), (@PySem.Value.ref 90), (@PySem.Value.bool @Bool.true), (@PySem.Value.int (@OfNat.ofNat.{0} @Int 276 (@instOfNat 276)) 0), (@PySem.Value.ref 91), @PySem.Value.none, (@PySem.Value.ref 92), (@PySem.Value.ref 93), (@PySem.Value.ref 94), (@PySem.Value.int (@OfNat.ofNat.{0} @Int 547 (@instOfNat 547)) 0), (@PySem.Value.int (@OfNat.ofNat.{0} @Int 96 (@instOfNat 96)) 0), (@PySem.Value.str (Str.mk (List.toArray [47, 99, 108, 97, 105, 109, 47, 99, 117, 116, 46, 112, 121])) 548)])) (List.toArray []))
noncomputable abbrev obF96 (P : Params) : Obj := (@PySem.Obj.mk (@PySem.Value.type "function") none (@PySem.Data.func (dfd 13 (@PySem.Value.str (Str.ofString "cpy313.heapq") 532) (@PySem.Value.ref 95) @PySem.Value.none)) (List.toArray []))
noncomputable abbrev obF97 (P : Params) : Obj := (@PySem.Obj.mk (@PySem.Value.type "tuple") none (@PySem.Data.seq (List.toArray []) 0) (List.toArray []))
noncomputable abbrev obF98 (P : Params) : Obj := (@PySem.Obj.mk @PySem.Value.none none (@PySem.Data.fields (List.toArray [])) (List.toArray []))
noncomputable abbrev obF99 (P : Params) : Obj := (@PySem.Obj.mk (@PySem.Value.type "tuple") none (@PySem.Data.seq (List.toArray [(@PySem.Value.str (Str.ofString "heap") 553), (@PySem.Value.str (Str.ofString "startpos") 554), (@PySem.Value.str (Str.ofString "pos") 555), (@PySem.Value.str (Str.ofString "newitem") 556), (@PySem.Value.str (Str.ofString "parentpos") 557), (@PySem.Value.str (Str.ofString "parent") 558)]) 0) (List.toArray []))
noncomputable abbrev obF100 (P : Params) : Obj := (@PySem.Obj.mk (@PySem.Value.type "tuple") none (@PySem.Data.seq (List.toArray []) 0) (List.toArray []))
noncomputable abbrev obF101 (P : Params) : Obj := (@PySem.Obj.mk @PySem.Value.none none (@PySem.Data.func (fdr 14)) (List.toArray []))
noncomputable abbrev obF102 (P : Params) : Obj := (@PySem.Obj.mk (@PySem.Value.type "code") none (@PySem.Data.fields (List.toArray [(@PySem.Value.str (Str.ofString "_siftdown") 550), (@PySem.Value.str (Str.ofString "_siftdown") 551), (@PySem.Value.str (Str.mk (List.toArray [47, 99, 108, 97, 105, 109, 47, 99, 117, 116, 46, 112, 121])) 552), (@PySem.Value.int (@OfNat.ofNat.{0} @Int 101 (@instOfNat 101)) 0), (@PySem.Value.int (@OfNat.ofNat.{0} @Int 3 (@instOfNat 3)) 0), (@PySem.Value.int (@OfNat.ofNat.{0} @Int 0 (@instOfNat 0)) 0), (@PySem.Value.int (@OfNat.ofNat.{0} @Int 0 (@instOfNat 0)) 0), (@PySem.Value.int (@OfNat.ofNat.{0} @Int 3 (@instOfNat 3)) 0), (@PySem.Value.ref 97), (@PySem.Value.bool @Bool.true), (@PySem.Value.int (@OfNat.ofNat.{0} @Int 276 (@instOfNat 276)) 0), (@PySem.Value.ref 98), @PySem.Value.none, (@PySem.Value.ref 99), (@PySem.Value.ref 100), (@PySem.Value.ref 101), (@PySem.Value.int (@OfNat.ofNat.{0} @Int 559 (@instOfNat 559)) 0), (@PySem.Value.int (@OfNat.ofNat.{0} @Int 101 (@instOfNat 101)) 0), (@PySem.Value.str (Str.mk (List.toArray [47, 99, 108, 97, 105, 109, 47, 99, 117, 116, 46, 112, 121])) 560)])) (List.toArray []))
noncomputable abbrev obF103 (P : Params) : Obj := (@PySem.Obj.mk (@PySem.Value.type "function") none (@PySem.Data.func (dfd 14 (@PySem.Value.str (Str.ofString "cpy313.heapq") 532) (@PySem.Value.ref 102) @PySem.Value.none)) (List.toArray []))
noncomputable abbrev obF104 (P : Params) : Obj := (@PySem.Obj.mk (@PySem.Value.type "tuple") none (@PySem.Data.seq (List.toArray []) 0) (List.toArray []))
noncomputable abbrev obF105 (P : Params) : Obj := (@PySem.Obj.mk @PySem.Value.none none (@PySem.Data.fields (List.toArray [])) (List.toArray []))
noncomputable abbrev obF106 (P : Params) : Obj := (@PySem.Obj.mk (@PySem.Value.type "tuple") none (@PySem.Data.seq (List.toArray [(@PySem.Value.str (Str.ofString "heap") 565), (@PySem.Value.str (Str.ofString "pos") 566), (@PySem.Value.str (Str.ofString "endpos") 567), (@PySem.Value.str (Str.ofString "startpos") 568), (@PySem.Value.str (Str.ofString "newitem") 569), (@PySem.Value.str (Str.ofString "childpos") 570), (@PySem.Value.str (Str.ofString "rightpos") 571)]) 0) (List.toArray []))
noncomputable abbrev obF107 (P : Params) : Obj := (@PySem.Obj.mk (@PySem.Value.type "tuple") none (@PySem.Data.seq (List.toArray []) 0) (List.toArray []))
noncomputable abbrev obF108 (P : Params) : Obj := (@PySem.Obj.mk @PySem.Value.none none (@PySem.Data.func (fdr 15)) (List.toArray []))
noncomputable abbrev obF109 (P : Params) : Obj := (@PySem.Obj.mk (@PySem.Value.type "code") none (@PySem.Data.fields (List.toArray [(@PySem.Value.str (Str.ofString "_siftup") 562), (@PySem.Value.str (Str.ofString "_siftup") 563), (@PySem.Value.str (Str.mk (List.toArray [47, 99, 108, 97, 105, 109, 47, 99, 117, 116, 46, 112, 121])) 564), (@PySem.Value.int (@OfNat.ofNat.{0} @Int 112 (@instOfNat 112)) 0), (@PySem.Value.int (@OfNat.ofNat.{0} @Int 2 (@instOfNat 2)) 0), (@PySem.Value.int (@OfNat.ofNat.{0} @Int 0 (@instOfNat 0)) 0), (@PySem.Value.int (@OfNat.ofNat.{0} @Int 0 (@instOfNat 0)) 0), (@PySem.Value.int (@OfNat.ofNat.{0} @Int 3 (@instOfNat 3)) 0), (@PySem.Value.ref 104), (@PySem.Value.bool @Bool.true), (@PySem.Value.int (@OfNat.ofNat.{0} @Int 276 (@instOfNat 276)) 0), (@PySem.Value.ref 105), @PySem.Value.none, (@PySem.Value.ref 106), (@PySem.Value.ref 107), (@PySem.Value.ref 108), (@PySem.Value.int (@OfNat.ofNat.{0} @Int 572 (@instOfNat 572)) 0), (@PySem.Value.int (@OfNat.ofNat.{0} @Int 112 (@instOfNat 112)) 0), (@PySem.Value.str (Str.mk (List.toArray [47, 99, 108, 97, 105, 109, 47, 99, 117, 116, 46, 112, 121])) 573)])) (List.toArray []))
noncomputable abbrev obF110 (P : Params) : Obj := (@PySem.Obj.mk (@PySem.Value.type "function") none (@PySem.Data.func (dfd 15 (@PySem.Value.str (Str.ofString "cpy313.heapq") 532) (@PySem.Value.ref 109) @PySem.Value.none)) (List.toArray []))
noncomputable abbrev obF111 (P : Params) : Obj := (@PySem.Obj.mk (@PySem.Value.type "tuple") none (@PySem.Data.seq (List.toArray []) 0) (List.toArray []))
noncomputable abbrev obF112 (P : Params) : Obj := (@PySem.Obj.mk @PySem.Value.none none (@PySem.Data.fields (List.toArray [])) (List.toArray []))
noncomputable abbrev obF113 (P : Params) : Obj := (@PySem.Obj.mk (@PySem.Value.type "tuple") none (@PySem.Data.seq (List.toArray [(@PySem.Value.str (Str.ofString "draw") 580), (@PySem.Value.str (Str.ofString "low") 581), (@PySem.Value.str (Str.ofString "high") 582), (@PySem.Value.str (Str.ofString "bracket") 583)]) 0) (List.toArray []))
noncomputable abbrev obF114 (P : Params) : Obj := (@PySem.Obj.mk (@PySem.Value.type "tuple") none (@PySem.Data.seq (List.toArray []) 0) (List.toArray []))
noncomputable abbrev obF115 (P : Params) : Obj := (@PySem.Obj.mk @PySem.Value.none none (@PySem.Data.func (fdr 17)) (List.toArray []))
noncomputable abbrev obF116 (P : Params) : Obj := (@PySem.Obj.mk (@PySem.Value.type "code") none (@PySem.Data.fields (List.toArray [(@PySem.Value.str (Str.ofString "_law_sign") 577), (@PySem.Value.str (Str.ofString "_law_sign") 578), (@PySem.Value.str (Str.mk (List.toArray [47, 99, 108, 97, 105, 109, 47, 99, 117, 116, 46, 112, 121])) 579), (@PySem.Value.int (@OfNat.ofNat.{0} @Int 127 (@instOfNat 127)) 0), (@PySem.Value.int (@OfNat.ofNat.{0} @Int 1 (@instOfNat 1)) 0), (@PySem.Value.int (@OfNat.ofNat.{0} @Int 0 (@instOfNat 0)) 0), (@PySem.Value.int (@OfNat.ofNat.{0} @Int 0 (@instOfNat 0)) 0), (@PySem.Value.int (@OfNat.ofNat.{0} @Int 3 (@instOfNat 3)) 0), (@PySem.Value.ref 111), (@PySem.Value.bool @Bool.true), (@PySem.Value.int (@OfNat.ofNat.{0} @Int 276 (@instOfNat 276)) 0), (@PySem.Value.ref 112), @PySem.Value.none, (@PySem.Value.ref 113), (@PySem.Value.ref 114), (@PySem.Value.ref 115), (@PySem.Value.int (@OfNat.ofNat.{0} @Int 584 (@instOfNat 584)) 0), (@PySem.Value.int (@OfNat.ofNat.{0} @Int 127 (@instOfNat 127)) 0), (@PySem.Value.str (Str.mk (List.toArray [47, 99, 108, 97, 105, 109, 47, 99, 117, 116, 46, 112, 121])) 585)])) (List.toArray []))
noncomputable abbrev obF117 (P : Params) : Obj := (@PySem.Obj.mk (@PySem.Value.type "function") none (@PySem.Data.func (dfd 17 (@PySem.Value.str (Str.ofString "law_rx0039_01") 575) (@PySem.Value.ref 116) @PySem.Value.none)) (List.toArray []))
noncomputable abbrev obF118 (P : Params) : Obj := (@PySem.Obj.mk (@PySem.Value.type "tuple") none (@PySem.Data.seq (List.toArray []) 0) (List.toArray []))
noncomputable abbrev obF119 (P : Params) : Obj := (@PySem.Obj.mk @PySem.Value.none none (@PySem.Data.fields (List.toArray [])) (List.toArray []))
noncomputable abbrev obF120 (P : Params) : Obj := (@PySem.Obj.mk @PySem.Value.none none (@PySem.Data.func (fdr 18)) (List.toArray []))
noncomputable abbrev obF121 (P : Params) : Obj := (@PySem.Obj.mk (@PySem.Value.type "code") none (@PySem.Data.fields (List.toArray [(@PySem.Value.str (Str.ofString "_law_meant") 587), (@PySem.Value.str (Str.ofString "_law_meant") 588), (@PySem.Value.str (Str.mk (List.toArray [47, 99, 108, 97, 105, 109, 47, 99, 117, 116, 46, 112, 121])) 589), (@PySem.Value.int (@OfNat.ofNat.{0} @Int 132 (@instOfNat 132)) 0), (@PySem.Value.int (@OfNat.ofNat.{0} @Int 1 (@instOfNat 1)) 0), (@PySem.Value.int (@OfNat.ofNat.{0} @Int 0 (@instOfNat 0)) 0), (@PySem.Value.int (@OfNat.ofNat.{0} @Int 0 (@instOfNat 0)) 0), (@PySem.Value.int (@OfNat.ofNat.{0} @Int 3 (@instOfNat 3)) 0), (@PySem.Value.ref 118), (@PySem.Value.bool @Bool.true), (@PySem.Value.int (@OfNat.ofNat.{0} @Int 276 (@instOfNat 276)) 0), (@PySem.Value.ref 119), @PySem.Value.none, @PySem.Value.none, @PySem.Value.none, (@PySem.Value.ref 120), (@PySem.Value.int (@OfNat.ofNat.{0} @Int 590 (@instOfNat 590)) 0), (@PySem.Value.int (@OfNat.ofNat.{0} @Int 132 (@instOfNat 132)) 0), (@PySem.Value.str (Str.mk (List.toArray [47, 99, 108, 97, 105, 109, 47, 99, 117, 116, 46, 112, 121])) 591)])) (List.toArray []))
noncomputable abbrev obF122 (P : Params) : Obj := (@PySem.Obj.mk (@PySem.Value.type "function") none (@PySem.Data.func (dfd 18 (@PySem.Value.str (Str.ofString "law_rx0039_01") 575) (@PySem.Value.ref 121) @PySem.Value.none)) (List.toArray []))
noncomputable abbrev obF123 (P : Params) : Obj := (@PySem.Obj.mk (@PySem.Value.type "tuple") none (@PySem.Data.seq (List.toArray []) 0) (List.toArray []))
noncomputable abbrev obF124 (P : Params) : Obj := (@PySem.Obj.mk @PySem.Value.none none (@PySem.Data.fields (List.toArray [])) (List.toArray []))
noncomputable abbrev obF125 (P : Params) : Obj := (@PySem.Obj.mk @PySem.Value.none none (@PySem.Data.func (fdr 19)) (List.toArray []))
noncomputable abbrev obF126 (P : Params) : Obj := (@PySem.Obj.mk (@PySem.Value.type "code") none (@PySem.Data.fields (List.toArray [(@PySem.Value.str (Str.ofString "_law_letters") 593), (@PySem.Value.str (Str.ofString "_law_letters") 594), (@PySem.Value.str (Str.mk (List.toArray [47, 99, 108, 97, 105, 109, 47, 99, 117, 116, 46, 112, 121])) 595), (@PySem.Value.int (@OfNat.ofNat.{0} @Int 137 (@instOfNat 137)) 0), (@PySem.Value.int (@OfNat.ofNat.{0} @Int 1 (@instOfNat 1)) 0), (@PySem.Value.int (@OfNat.ofNat.{0} @Int 0 (@instOfNat 0)) 0), (@PySem.Value.int (@OfNat.ofNat.{0} @Int 0 (@instOfNat 0)) 0), (@PySem.Value.int (@OfNat.ofNat.{0} @Int 3 (@instOfNat 3)) 0), (@PySem.Value.ref 123), (@PySem.Value.bool @Bool.true), (@PySem.Value.int (@OfNat.ofNat.{0} @Int 276 (@instOfNat 276)) 0), (@PySem.Value.ref 124), @PySem.Value.none, @PySem.Value.none, @PySem.Value.none, (@PySem.Value.ref 125), (@PySem.Value.int (@OfNat.ofNat.{0} @Int 596 (@instOfNat 596)) 0), (@PySem.Value.int (@OfNat.ofNat.{0} @Int 137 (@instOfNat 137)) 0), (@PySem.Value.str (Str.mk (List.toArray [47, 99, 108, 97, 105, 109, 47, 99, 117, 116, 46, 112, 121])) 597)])) (List.toArray []))
noncomputable abbrev obF127 (P : Params) : Obj := (@PySem.Obj.mk (@PySem.Value.type "function") none (@PySem.Data.func (dfd 19 (@PySem.Value.str (Str.ofString "law_rx0039_01") 575) (@PySem.Value.ref 126) @PySem.Value.none)) (List.toArray []))
noncomputable abbrev obF128 (P : Params) : Obj := (@PySem.Obj.mk (@PySem.Value.type "tuple") none (@PySem.Data.seq (List.toArray []) 0) (List.toArray []))
noncomputable abbrev obF129 (P : Params) : Obj := (@PySem.Obj.mk @PySem.Value.none none (@PySem.Data.fields (List.toArray [])) (List.toArray []))
noncomputable abbrev obF130 (P : Params) : Obj := (@PySem.Obj.mk @PySem.Value.none none (@PySem.Data.func (fdr 20)) (List.toArray []))
noncomputable abbrev obF131 (P : Params) : Obj := (@PySem.Obj.mk (@PySem.Value.type "code") none (@PySem.Data.fields (List.toArray [(@PySem.Value.str (Str.ofString "_law_by_heaps") 599), (@PySem.Value.str (Str.ofString "_law_by_heaps") 600), (@PySem.Value.str (Str.mk (List.toArray [47, 99, 108, 97, 105, 109, 47, 99, 117, 116, 46, 112, 121])) 601), (@PySem.Value.int (@OfNat.ofNat.{0} @Int 145 (@instOfNat 145)) 0), (@PySem.Value.int (@OfNat.ofNat.{0} @Int 1 (@instOfNat 1)) 0), (@PySem.Value.int (@OfNat.ofNat.{0} @Int 0 (@instOfNat 0)) 0), (@PySem.Value.int (@OfNat.ofNat.{0} @Int 0 (@instOfNat 0)) 0), (@PySem.Value.int (@OfNat.ofNat.{0} @Int 3 (@instOfNat 3)) 0), (@PySem.Value.ref 128), (@PySem.Value.bool @Bool.true), (@PySem.Value.int (@OfNat.ofNat.{0} @Int 276 (@instOfNat 276)) 0), (@PySem.Value.ref 129), @PySem.Value.none, @PySem.Value.none, @PySem.Value.none, (@PySem.Value.ref 130), (@PySem.Value.int (@OfNat.ofNat.{0} @Int 602 (@instOfNat 602)) 0), (@PySem.Value.int (@OfNat.ofNat.{0} @Int 145 (@instOfNat 145)) 0), (@PySem.Value.str (Str.mk (List.toArray [47, 99, 108, 97, 105, 109, 47, 99, 117, 116, 46, 112, 121])) 603)])) (List.toArray []))
noncomputable abbrev obF132 (P : Params) : Obj := (@PySem.Obj.mk (@PySem.Value.type "function") none (@PySem.Data.func (dfd 20 (@PySem.Value.str (Str.ofString "law_rx0039_01") 575) (@PySem.Value.ref 131) @PySem.Value.none)) (List.toArray []))
noncomputable abbrev obF133 (P : Params) : Obj := (@PySem.Obj.mk (@PySem.Value.type "tuple") none (@PySem.Data.seq (List.toArray []) 0) (List.toArray []))
noncomputable abbrev obF134 (P : Params) : Obj := (@PySem.Obj.mk @PySem.Value.none none (@PySem.Data.fields (List.toArray [])) (List.toArray []))
noncomputable abbrev obF135 (P : Params) : Obj := (@PySem.Obj.mk @PySem.Value.none none (@PySem.Data.func (fdr 21)) (List.toArray []))
noncomputable abbrev obF136 (P : Params) : Obj := (@PySem.Obj.mk (@PySem.Value.type "code") none (@PySem.Data.fields (List.toArray [(@PySem.Value.str (Str.ofString "_law_by_counting") 605), (@PySem.Value.str (Str.ofString "_law_by_counting") 606), (@PySem.Value.str (Str.mk (List.toArray [47, 99, 108, 97, 105, 109, 47, 99, 117, 116, 46, 112, 121])) 607), (@PySem.Value.int (@OfNat.ofNat.{0} @Int 159 (@instOfNat 159)) 0), (@PySem.Value.int (@OfNat.ofNat.{0} @Int 1 (@instOfNat 1)) 0), (@PySem.Value.int (@OfNat.ofNat.{0} @Int 0 (@instOfNat 0)) 0), (@PySem.Value.int (@OfNat.ofNat.{0} @Int 0 (@instOfNat 0)) 0), (@PySem.Value.int (@OfNat.ofNat.{0} @Int 3 (@instOfNat 3)) 0), (@PySem.Value.ref 133), (@PySem.Value.bool @Bool.true), (@PySem.Value.int (@OfNat.ofNat.{0} @Int 276 (@instOfNat 276)) 0), (@PySem.Value.ref 134), @PySem.Value.none, @PySem.Value.none, @PySem.Value.none, (@PySem.Value.ref 135), (@PySem.Value.int (@OfNat.ofNat.{0} @Int 608 (@instOfNat 608)) 0), (@PySem.Value.int (@OfNat.ofNat.{0} @Int 159 (@instOfNat 159)) 0), (@PySem.Value.str (Str.mk (List.toArray [47, 99, 108, 97, 105, 109, 47, 99, 117, 116, 46, 112, 121])) 609)])) (List.toArray []))
noncomputable abbrev obF137 (P : Params) : Obj := (@PySem.Obj.mk (@PySem.Value.type "function") none (@PySem.Data.func (dfd 21 (@PySem.Value.str (Str.ofString "law_rx0039_01") 575) (@PySem.Value.ref 136) @PySem.Value.none)) (List.toArray []))
noncomputable abbrev obF138 (P : Params) : Obj := (@PySem.Obj.mk (@PySem.Value.type "tuple") none (@PySem.Data.seq (List.toArray []) 0) (List.toArray []))
noncomputable abbrev obF139 (P : Params) : Obj := (@PySem.Obj.mk @PySem.Value.none none (@PySem.Data.fields (List.toArray [])) (List.toArray []))
noncomputable abbrev obF140 (P : Params) : Obj := (@PySem.Obj.mk @PySem.Value.none none (@PySem.Data.func (fdr 22)) (List.toArray []))
noncomputable abbrev obF141 (P : Params) : Obj := (@PySem.Obj.mk (@PySem.Value.type "code") none (@PySem.Data.fields (List.toArray [(@PySem.Value.str (Str.ofString "law") 611), (@PySem.Value.str (Str.ofString "law") 612), (@PySem.Value.str (Str.mk (List.toArray [47, 99, 108, 97, 105, 109, 47, 99, 117, 116, 46, 112, 121])) 613), (@PySem.Value.int (@OfNat.ofNat.{0} @Int 169 (@instOfNat 169)) 0), (@PySem.Value.int (@OfNat.ofNat.{0} @Int 1 (@instOfNat 1)) 0), (@PySem.Value.int (@OfNat.ofNat.{0} @Int 0 (@instOfNat 0)) 0), (@PySem.Value.int (@OfNat.ofNat.{0} @Int 0 (@instOfNat 0)) 0), (@PySem.Value.int (@OfNat.ofNat.{0} @Int 3 (@instOfNat 3)) 0), (@PySem.Value.ref 138), (@PySem.Value.bool @Bool.true), (@PySem.Value.int (@OfNat.ofNat.{0} @Int 276 (@instOfNat 276)) 0), (@PySem.Value.ref 139), @PySem.Value.none, @PySem.Value.none, @PySem.Value.none, (@PySem.Value.ref 140), (@PySem.Value.int (@OfNat.ofNat.{0} @Int 614 (@instOfNat 614)) 0), (@PySem.Value.int (@OfNat.ofNat.{0} @Int 169 (@instOfNat 169)) 0), (@PySem.Value.str (Str.mk (List.toArray [47, 99, 108, 97, 105, 109, 47, 99, 117, 116, 46, 112, 121])) 615)])) (List.toArray []))
noncomputable abbrev obF142 (P : Params) : Obj := (@PySem.Obj.mk (@PySem.Value.type "function") none (@PySem.Data.func (dfd 22 (@PySem.Value.str (Str.ofString "law_rx0039_01") 575) (@PySem.Value.ref 141) @PySem.Value.none)) (List.toArray []))
noncomputable abbrev hpF (P : Params) : Heap := ⟨⟨[obA0 P, obA1 P, obA2 P, obF3 P, obA4 P, obA5 P, obA6 P, obA7 P, obA8 P, obA9 P, obA10 P, obA11 P, obA12 P, obA13 P, obA14 P, obA15 P, obA16 P, obA17 P, obA18 P, obA19 P, obA20 P, obA21 P, obA22 P, obA23 P, obA24 P, obA25 P, obA26 P, obA27 P, obB28 P, obF29 P, obB30 P, obB31 P, obD32 P, obD33 P, obD34 P, obD35 P, obD36 P, obD37 P, obD38 P, obD39 P, obD40 P, obD41 P, obD42 P, obD43 P, obD44 P, obD45 P, obD46 P, obD47 P, obD48 P, obD49 P, obD50 P, obD51 P, obD52 P, obD53 P, obD54 P, obD55 P, obD56 P, obD57 P, obD58 P, obD59 P, obD60 P, obD61 P, obD62 P, obD63 P, obE64 P, obE65 P, obE66 P, obE67 P, obE68 P, obF69 P, obF70 P, obF71 P, obF72 P, obF73 P, obF74 P, obF75 P, obF76 P, obF77 P, obF78 P, obF79 P, obF80 P, obF81 P, obF82 P, obF83 P, obF84 P, obF85 P, obF86 P, obF87 P, obF88 P, obF89 P, obF90 P, obF91 P, obF92 P, obF93 P, obF94 P, obF95 P, obF96 P, obF97 P, obF98 P, obF99 P, obF100 P, obF101 P, obF102 P, obF103 P, obF104 P, obF105 P, obF106 P, obF107 P, obF108 P, obF109 P, obF110 P, obF111 P, obF112 P, obF113 P, obF114 P, obF115 P, obF116 P, obF117 P, obF118 P, obF119 P, obF120 P, obF121 P, obF122 P, obF123 P, obF124 P, obF125 P, obF126 P, obF127 P, obF128 P, obF129 P, obF130 P, obF131 P, obF132 P, obF133 P, obF134 P, obF135 P, obF136 P, obF137 P, obF138 P, obF139 P, obF140 P, obF141 P, obF142 P]⟩, (@PySem.Life.mk [] [] [] 0 [] [] @Bool.false (List.toArray []) [] 0 @Bool.false @Bool.false @Bool.false (@OfNat.ofNat.{0} @Int 0 (@instOfNat 0)) [(@OfNat.ofNat.{0} @Int 2000 (@instOfNat 2000)), (@OfNat.ofNat.{0} @Int 10 (@instOfNat 10)), (@OfNat.ofNat.{0} @Int 10 (@instOfNat 10))] @Bool.false 0 @Bool.true [] [] 0 @Bool.false)⟩
noncomputable abbrev stF (w : World) (os : OsState) : Shared := ⟨hpF w.params, ⟨[]⟩, (@PySem.Drawn.mk 0 0 0 0), 617, os⟩
noncomputable abbrev tpAnn : Option Value := some (.ref 6)
noncomputable abbrev tpEnv : Env := { scope := tpP.main.scope, locals := mainNs, globals := mainNs, cells := [], code := .ref 30, frame := some 31 }
noncomputable abbrev tpC : Code := .body (behindTheImports tpP) tpEnv
noncomputable abbrev tpB : List Frame := [topFrame ⟨0, 0, 0, 0⟩]
noncomputable abbrev tpg (a n : Nat) : List Stmt := (List.range n).map fun i => stm (a + i)
theorem tp_body : behindTheImports tpP = tpg 1 6 ++ (tpg 7 1 ++ (tpg 8 15 ++ [])) := by kernel_rfl
end
section
open PySem PySem.W PyProof.Rows PySem.Calls
theorem tp_open (w : World) : (fencedOpening treeTable tpP w 4096).map (fun s => (s.heap, s.gens, s.drawn, s.toks)) = some (hpA w.params, ⟨[]⟩, @PySem.Drawn.mk 0 0 0 0, 276) := by kernel_rfl
theorem tp_size (w : World) : ((hpA w.params).isNs mainGlobals && (⟨[]⟩ : Array GenState).size == 0, (hpA w.params).objs.size, (hpA w.params).nsMap mainGlobals "__annotations__") = (true, 28, tpAnn) := by kernel_rfl
theorem tp_pre (w : World) (os : OsState) : topGo treeTable tpP w 28 tpAnn 12 (stA w os) (topStub tpP) = some (stB w os, ⟨denote treeTable tpC, tpC, ⟨0, 0, 0, 0⟩, tpB⟩) := by kernel_rfl
theorem tp_block (w : World) (os : OsState) : segRun treeTable tpP w 28 tpAnn 1 2 (stB w os) (blockOf (behindTheImports tpP) tpEnv tpC ⟨0, 0, 0, 0⟩ tpB) = some (.next, stB w os, tpC, ⟨0, 0, 0, 0⟩) := by kernel_rfl
theorem tp_one (w : World) (os : OsState) : segRun treeTable tpP w 28 tpAnn 1 346 (stB w os) (piecesOf (tpg 1 6) tpEnv tpC ⟨0, 0, 0, 0⟩ tpB) = some (.next, stD w os, tpC, ⟨21, 0, 21, 8⟩) := by kernel_rfl
noncomputable abbrev tpTwo (w : World) : Prop := ∀ os : OsState, segRun treeTable tpP w 28 tpAnn 1 1400 (stD w os) (piecesOf (tpg 7 1) tpEnv tpC ⟨21, 0, 21, 8⟩ tpB) = some (.next, stE w os, tpC, ⟨22, 0, 22, 18⟩)
theorem tp_two00 (w : World) : tpTwo ((w.withFollow "special-get-raises" false).withFollow "comprehension-iter-twice" false) := fun os => by kernel_rfl
theorem tp_two01 (w : World) : tpTwo ((w.withFollow "special-get-raises" false).withFollow "comprehension-iter-twice" true) := fun os => by kernel_rfl
theorem tp_two10 (w : World) : tpTwo ((w.withFollow "special-get-raises" true).withFollow "comprehension-iter-twice" false) := fun os => by kernel_rfl
theorem tp_two11 (w : World) : tpTwo ((w.withFollow "special-get-raises" true).withFollow "comprehension-iter-twice" true) := fun os => by kernel_rfl
theorem tp_rows {P : World → Prop} (r r' : String) (h : ∀ (w : World) (a b : Bool), P ((w.withFollow r a).withFollow r' b)) (w : World) : P w := by
  have h1 := h w (w.params.followText r) ((w.withFollow r (w.params.followText r)).params.followText r')
  rw [World.withFollow_self, World.withFollow_self] at h1
  exact h1
theorem tp_two (w : World) : tpTwo w := tp_rows "special-get-raises" "comprehension-iter-twice" (fun w a b => by
  cases a <;> cases b
  · exact tp_two00 w
  · exact tp_two01 w
  · exact tp_two10 w
  · exact tp_two11 w) w
theorem tp_three (w : World) (os : OsState) : segRun treeTable tpP w 28 tpAnn 1 400 (stE w os) (piecesOf (tpg 8 15) tpEnv tpC ⟨22, 0, 22, 18⟩ tpB) = some (.next, stF w os, tpC, ⟨169, 0, 175, 110⟩) := by kernel_rfl
theorem tp_fin (w : World) (os : OsState) : topRun treeTable tpP w 28 tpAnn 3 (stF w os) ⟨doneF .next, tpC, ⟨169, 0, 175, 110⟩, tpB⟩ = some (stF w os) := by kernel_rfl
theorem tp_run (w : World) (os : OsState) : topRun treeTable tpP w 28 tpAnn (12 + (2 + (346 + (1400 + (400 + 3))))) (stA w os) (topStub tpP) = some (stF w os) := by
  refine go_top (tp_pre w os) (piece_block (tp_block w os) ?_)
  rw [show restOf (behindTheImports tpP) tpEnv tpC ⟨0, 0, 0, 0⟩ tpB = restOf (tpg 1 6 ++ (tpg 7 1 ++ (tpg 8 15 ++ []))) tpEnv tpC ⟨0, 0, 0, 0⟩ tpB from congrArg (fun b => restOf b tpEnv tpC ⟨0, 0, 0, 0⟩ tpB) tp_body]
  exact piece_app (tp_one w os) (piece_app (tp_two w os) (piece_app (tp_three w os) (piece_nil (tp_fin w os))))
end
section
open PySem PySem.W PyProof.Rows PySem.Calls
/-! ## the head, out of the runs between the borders -/
noncomputable abbrev tpQ : Program := { tpP with main := { tpP.main with body := [stm 0, stm 2, stm 3, stm 4, stm 5, stm 7, stm 8, stm 10, stm 12, stm 13, stm 14, stm 15, stm 17, stm 18, stm 19, stm 20, stm 21, stm 22] } }
noncomputable abbrev tpL : List Str := [Str.ofString "_twin_re_1", Str.ofString "_special_chars_map"]
noncomputable abbrev tpR : RowW := PySem.Challenge.rw_rx0039_01.row.toRowW
theorem tp_looks (w : World) : (fun os => ((staticsOk (importedModules tpP.main.body) (hpA w.params) (hpF w.params) && namesBound tpP (hpF w.params) && gensDone ⟨hpF w.params, ⟨[]⟩, @PySem.Drawn.mk 0 0 0 0, 617, os⟩ && laidKept (hpA w.params) (hpF w.params)),
    openSeen tpQ tpL (importedModules tpP.main.body) (fun s => xlAt tpQ [] s && recOk (RowW.records tpR) s) true ⟨hpF w.params, ⟨[]⟩, @PySem.Drawn.mk 0 0 0 0, 617, os⟩, Hook.obs hk ⟨hpF w.params, ⟨[]⟩, @PySem.Drawn.mk 0 0 0 0, 617, os⟩)) = fun _ => (true, openGood tpQ tpL, Hook.val hk w) := by kernel_rfl
theorem tp_left : LeftO tpP tpQ tpL (fun s => xlAt tpQ [] s && recOk (RowW.records tpR) s) (Hook.obs hk) (Hook.val hk) 4096 :=
  LeftO.of_pieces tp_open tp_size tp_run (by decide) tp_looks
theorem tp_def : defOf tpQ (Str.ofString "law") = some (⟨sname (stm 22), sparams (stm 22), sbody (stm 22), sscope (stm 22), (⟨169, 0, 175, 110⟩ : Pos)⟩, []) := by kernel_rfl
end
local macro_rules | `(tactic| walk_at "mem") => `(tactic| first | assumption | (with_reducible exact Lo.head) | ((with_reducible apply Lo.tail); walk_at "mem") | (with_reducible exact List.mem_cons_self) | ((with_reducible apply List.mem_cons_of_mem); walk_at "mem") | (with_reducible exact Se.head) | ((with_reducible apply Se.tail); walk_at "mem") | (with_reducible exact Rem.head) | ((with_reducible apply Rem.tail); walk_at "mem") | (with_reducible exact Up.head) | ((with_reducible apply Up.tail); walk_at "mem") | (with_reducible exact clHead) | ((with_reducible apply clTail); kernel_rfl; walk_at "mem"))
local macro_rules | `(tactic| walk_at "ws") => `(tactic| try ((first | ((with_reducible show Ent _ (W _ _ (eval _ _) _)); first | (with_reducible refine W_local (by assumption) (by kernel_rfl) (by walk_at "mem") ?_) | (with_reducible refine W_int ?_) | (with_reducible refine W_cell (by assumption) (by kernel_rfl) (by walk_at "mem") (by walk_at "mem") (fun _ q => q) ?_) | (with_reducible refine W_cellF (by assumption) (by assumption) (by walk_at "mem") (by walk_at "mem") (by kernel_rfl) ?_) | (with_reducible refine W_Subscript ?_) | (with_reducible refine W_BinOp ?_) | (with_reducible refine W_Compare ?_) | (with_reducible refine W_str ?_) | (with_reducible refine W_none ?_) | (with_reducible refine W_bool ?_) | (with_reducible refine W_UnaryOp ?_) | (with_reducible refine W_IfExp ?_) | (with_reducible refine W_And ?_) | (with_reducible refine W_Tuple ?_) | (with_reducible refine W_List ?_)) | ((with_reducible show Ent _ (W _ _ (execs _ _) _)); first | (with_reducible refine W_cons ?_) | (with_reducible refine W_nil ?_)) | ((with_reducible show Ent _ (W _ _ (exec _ _) _)); first | (with_reducible refine W_Assign ?_) | (with_reducible refine W_setSub ?_) | (with_reducible refine W_Return ?_) | (with_reducible refine W_Expr (by assumption) ?_) | (with_reducible refine W_Break ?_) | (with_reducible refine W_Continue ?_) | (with_reducible refine W_Assert ?_)) | ((with_reducible show Ent _ (W _ _ (storeName _ _ _) _)); first | (with_reducible refine W_store (by assumption) (by kernel_rfl) (by walk_at "mem") ?_) | (with_reducible refine W_storeCell (by assumption) (by kernel_rfl) (by walk_at "mem") (by walk_at "mem") ?_)) | ((with_reducible show Ent _ (W _ _ (spliced _) _)); first | (with_reducible refine W_items ?_) | (with_reducible refine W_items_nil ?_)) | ((with_reducible show Ent _ (W _ _ (PySem.isTrue _ _ _) _)); first | (with_reducible refine T_Compare ?_) | (with_reducible refine T_Not ?_) | (with_reducible refine T_And ?_) | (with_reducible refine T_AndNil ?_) | (with_reducible refine T_plain ?_)) | ((with_reducible show Ent _ (W _ _ (binaryOp _ _ _) _)); first | (with_reducible refine b_add ?_) | (with_reducible refine b_sub ?_) | (with_reducible refine b_mul ?_ (IntMulOk.of_left (by decide)))) | ((with_reducible show Ent _ (W _ _ (compareOp _ _ _) _)); first | (with_reducible refine c_lt ?_) | (with_reducible refine c_le ?_) | (with_reducible refine c_gt ?_) | (with_reducible refine c_ge ?_) | (with_reducible refine c_eq ?_) | (with_reducible refine c_ne ?_) | (with_reducible refine x_eq ?_) | (with_reducible refine x_ne ?_) | (with_reducible refine x_gt ?_) | (with_reducible refine x_le ?_)) | ((with_reducible show Ent _ (W _ _ (truthy _) _)); first | (with_reducible refine t_bool ?_) | (with_reducible refine t_none ?_)) | ((with_reducible show Ent _ (W _ _ (assign _ _ _) _)); first | (with_reducible refine W_aName ?_) | (with_reducible refine W_aSub ?_)) | ((with_reducible show Ent _ (W _ _ (unaryOp _ _) _)); first | (with_reducible refine u_neg ?_)) | ((with_reducible show Ent _ (BrH _ _ _)); first | (with_reducible refine brT ?_) | (with_reducible refine brF ?_) | (with_reducible refine brNot ?_)) | ((with_reducible show Ent _ (noneQ _ _)); first | (with_reducible refine isNone ?_)) | ((with_reducible show Ent _ (bsQ _ _)); first | (with_reducible refine isBs ?_)) | ((with_reducible show ∀ _ : Tok, _); intro _)); walk_at "ws"))
section
open PySem PySem.W PyProof.Rows PySem.Calls
set_option maxHeartbeats 4000000
variable {c : Cf} {A : Around} {H₀ hh : Heap} {a : Addr} {ns : List Int}
theorem siftdown_ok {p : Nat} {t0 t1 : Tok} (B : Bs c H₀) (ok : Ok A 1) (hb : le H₀ hh) (hl : Is hh a ns) (h0 : H₀.get? a = none) (hp : p < ns.length) (hz : ns.length ≤ 1000) :
    W c A (call (.ref (c.fa 14)) [.ref a, .int 0 t0, .int p t1]) (TurnQ hh a (· = .none) (IL (sd ns (ns.getD p 0) p))) hh := by
  refine W_def1 (ims := []) 14 ["heap", "startpos", "pos"] ["newitem", "parentpos", "parent"] B ok hb hl h0 (fun _ q => absurd q List.not_mem_nil) fun e L A' ok' E hcd => ?_
  simp only [mk, bnd, List.zip_cons_cons, List.zip_nil_right, List.map_cons, List.map_nil, List.cons_append, List.nil_append]
  refine W_cons ?_
  walk_at "ws"
  refine i_sub p (by walk_at "mem") rfl hp hz ?_
  walk_at "ws"
  refine W_While (fun k h' => ∃ ns' t2 t3 v1 v2, ns'.length = ns.length ∧ k < ns.length ∧ sd ns' (ns.getD p 0) k = sd ns (ns.getD p 0) p ∧ St H₀ hh [a] L [("heap", some (.ref a)), ("startpos", some (.int 0 t0)), ("pos", some (.int k t3)), ("newitem", some (.int (ns.getD p 0) t2)), ("parentpos", v1), ("parent", v2)] [(a, IL ns')] [] h') (fun k h₃ => ?_) p (fun h s => ⟨ns, _, t1, none, none, rfl, hp, rfl, s⟩)
  rintro ⟨ns', t2, t3, v1, v2, hl', hk, hsd, s₃⟩
  revert h₃
  walk_at "ws"
  refine brDec (fun hk0 => ?_) (fun hk0 => ?_)
  · walk_at "ws"
    refine b_shr1 (by omega) ?_
    walk_at "ws"
    refine i_sub ((k - 1) / 2) (by walk_at "mem") (by omega) (by omega) (by omega) ?_
    walk_at "ws"
    refine W_If ?_
    walk_at "ws"
    refine brDec (fun hlt => ?_) (fun hlt => ?_)
    · walk_at "ws"
      refine i_set k (by walk_at "mem") rfl (by omega) (by omega) ?_
      walk_at "ws"
      intro h₅ s₅
      rw [show ((k : Int) - 1) / 2 = (((k - 1) / 2 : Nat) : Int) from by omega] at s₅
      exact ⟨(k - 1) / 2, by omega, ns'.set k (ns'.getD ((k - 1) / 2) 0), _, _, _, _, by rw [List.length_set]; exact hl', by omega, (sd_lt (by omega) hlt).symm.trans hsd, s₅⟩
    · walk_at "ws"
      refine i_set k (by walk_at "mem") rfl (by omega) (by omega) ?_
      walk_at "ws"
      intro h₅ s₅
      refine ⟨rfl, s₅.kp, ?_⟩
      rw [← hsd, sd_ge hlt]
      exact s₅.is (by walk_at "mem")
  · walk_at "ws"
    refine i_set k (by walk_at "mem") rfl (by omega) (by omega) ?_
    walk_at "ws"
    intro h₅ s₅
    refine ⟨rfl, s₅.kp, ?_⟩
    have hk1 : k = 0 := by omega
    subst hk1
    rw [← hsd, sd_zero]
    exact s₅.is (by walk_at "mem")

theorem siftup_ok {t0 : Tok} (B : Bs c H₀) (ok : Ok A 2) (hb : le H₀ hh) (hl : Is hh a ns) (h0 : H₀.get? a = none) (hp : 0 < ns.length) (hz : ns.length ≤ 1000) :
    W c A (call (.ref (c.fa 15)) [.ref a, .int 0 t0]) (TurnQ hh a (· = .none) (IL (sd ((su ns 0).1.set (su ns 0).2 (ns.getD 0 0)) (ns.getD 0 0) (su ns 0).2))) hh := by
  refine W_def1 (ims := []) 15 ["heap", "pos"] ["endpos", "startpos", "newitem", "childpos", "rightpos"] B ok hb hl h0 (fun _ q => absurd q List.not_mem_nil) fun e L A' ok' E hcd => ?_
  simp only [mk, bnd, List.zip_cons_cons, List.zip_nil_right, List.map_cons, List.map_nil, List.cons_append, List.nil_append]
  refine W_cons ?_
  walk_at "ws"
  refine W_callB "len" B E ?_
  walk_at "ws"
  refine i_len (by walk_at "mem") hz ?_
  walk_at "ws"
  refine i_sub 0 (by walk_at "mem") rfl hp hz ?_
  walk_at "ws"
  refine W_While (fun n h' => ∃ ns' k t1 t2 t3 t7 t8 v, n = ns.length - k ∧ k < ns.length ∧ ns'.length = ns.length ∧ su ns' k = su ns 0 ∧ St H₀ hh [a] L [("heap", some (.ref a)), ("pos", some (.int (k : Nat) t7)), ("endpos", some (.int ns.length t1)), ("startpos", some (.int 0 t3)), ("newitem", some (.int (ns.getD 0 0) t2)), ("childpos", some (.int (2 * (k : Int) + 1) t8)), ("rightpos", v)] [(a, IL ns')] [] h') (fun n h₆ => ?_) ns.length (fun h s => ⟨ns, 0, _, _, _, _, _, _, rfl, hp, rfl, rfl, s⟩)
  rintro ⟨ns', k, t1, t2, t3, t7, t8, v, rfl, hk, hl', hsu, s₆⟩
  revert h₆
  walk_at "ws"
  refine brDec (fun hc => ?_) (fun hc => ?_)
  · walk_at "ws"
    have e1 : (2 * (k : Int) + 1) = ((2 * k + 1 : Nat) : Int) := by omega
    have e2 : (2 * (k : Int) + 1 + 1) = ((2 * k + 2 : Nat) : Int) := by omega
    have hc' : 2 * k + 1 < ns'.length := by omega
    have hz' : ns'.length ≤ 1000 := by omega
    rw [e2, e1]
    refine W_join (fun h' => ∃ ch t9 v, ch < ns'.length ∧ k < ch ∧ su ns' k = su (ns'.set k (ns'.getD ch 0)) ch ∧ St H₀ hh [a] L [("heap", some (.ref a)), ("pos", some (.int (k : Nat) t7)), ("endpos", some (.int ns.length t1)), ("startpos", some (.int 0 t3)), ("newitem", some (.int (ns.getD 0 0) t2)), ("childpos", some (.int (ch : Nat) t9)), ("rightpos", v)] [(a, IL ns')] [] h') (W_If ?_) ?_
    · walk_at "ws"
      refine brDec (fun hr => ?_) (fun hr => ?_)
      · have hr' : 2 * k + 2 < ns'.length := by omega
        walk_at "ws"
        refine i_sub (2 * k + 1) (by walk_at "mem") rfl hc' hz' ?_
        walk_at "ws"
        refine i_sub (2 * k + 2) (by walk_at "mem") rfl hr' hz' ?_
        walk_at "ws"
        refine brDec (fun hlt => ?_) (fun hlt => ?_)
        · walk_at "ws"
          intro h s
          exact ⟨2 * k + 1, _, _, hc', by omega, su_l hc' fun q => q.2 hlt, s⟩
        · walk_at "ws"
          intro h s
          exact ⟨2 * k + 2, _, _, hr', by omega, su_r hr' hlt, s⟩
      · walk_at "ws"
        intro h s
        exact ⟨2 * k + 1, _, _, hc', by omega, su_l hc' fun q => hr (by omega), s⟩
    · rintro h₈ ⟨ch, t9, v9, hch, hkc, hs, s₈⟩
      revert h₈
      walk_at "ws"
      refine i_sub ch (by walk_at "mem") rfl hch hz' ?_
      walk_at "ws"
      refine i_set k (by walk_at "mem") rfl (by omega) hz' ?_
      walk_at "ws"
      intro h s
      exact ⟨ns.length - ch, by omega, ns'.set k (ns'.getD ch 0), ch, _, _, _, _, _, _, rfl, by omega, by rw [List.length_set]; exact hl', by rw [← hs]; exact hsu, s⟩
  · walk_at "ws"
    refine i_set k (by walk_at "mem") rfl (by omega) (by omega) ?_
    walk_at "ws"
    refine W_callF 14 B E ?_
    walk_at "ws"
    refine E_call1 _ Up.head (fun h s => siftdown_ok B ok' s.bs (s.is (by walk_at "mem")) h0 (by rw [List.length_set]; omega) (by rw [List.length_set]; omega)) ?_
    rintro v rfl
    walk_at "ws"
    have e1 : (ns'.set k (ns.getD 0 0)).getD k 0 = ns.getD 0 0 := by simp [List.getD, hl', hk]
    rw [← hsu, su_end (by omega), e1]
    exact fun h s => ⟨rfl, s.kp, s.is (by walk_at "mem")⟩

theorem heappush_ok {x : Int} {t0 : Tok} (B : Bs c H₀) (ok : Ok A 2) (hb : le H₀ hh) (hl : Is hh a ns) (h0 : H₀.get? a = none) (hz : ns.length < 1000) :
    W c A (call (.ref (c.fa 12)) [.ref a, .int x t0]) (TurnQ hh a (· = .none) (IL (sd (ns ++ [x]) x ns.length))) hh := by
  refine W_def1 (ims := []) 12 ["heap", "item"] [] B ok hb hl h0 (fun _ q => absurd q List.not_mem_nil) fun e L A' ok' E hcd => ?_
  simp only [mk, bnd, List.zip_cons_cons, List.zip_nil_right, List.map_cons, List.map_nil, List.cons_append, List.nil_append]
  refine W_cons ?_
  walk_at "ws"
  refine W_ml slot_list_append type_list_append E (by walk_at "mem") (by walk_at "mem") (fun _ => IL.ls) ?_
  walk_at "ws"
  refine i_append (by walk_at "mem") (by omega) ?_
  walk_at "ws"
  refine W_callF 14 B E ?_
  walk_at "ws"
  refine W_callB "len" B E ?_
  walk_at "ws"
  refine i_len (by walk_at "mem") (by simp; omega) ?_
  walk_at "ws"
  have e1 : ((ns ++ [x]).length : Int) - 1 = (ns.length : Nat) := by simp
  have e2 : (ns ++ [x]).getD ns.length 0 = x := by simp
  rw [e1]
  refine E_call1 _ Up.head (fun h s => siftdown_ok B ok' s.bs (s.is (by walk_at "mem")) h0 (by simp) (by simp; omega)) ?_
  rintro v rfl
  rw [e2]
  walk_at "ws"
  exact fun h s => ⟨rfl, s.kp, s.is (by walk_at "mem")⟩

theorem heappushpop_ok {x : Int} {t0 : Tok} (B : Bs c H₀) (ok : Ok A 3) (hb : le H₀ hh) (hl : Is hh a ns) (h0 : H₀.get? a = none) (hz : ns.length < 1000) :
    W c A (call (.ref (c.fa 13)) [.ref a, .int x t0]) (TurnQ hh a (fun v => ∃ t, v = .int (if 0 < ns.length ∧ ns.getD 0 0 < x then ns.getD 0 0 else x) t)
      (IL (if 0 < ns.length ∧ ns.getD 0 0 < x then sd ((su (ns.set 0 x) 0).1.set (su (ns.set 0 x) 0).2 x) x (su (ns.set 0 x) 0).2 else ns))) hh := by
  refine W_def1 (ims := []) 13 ["heap", "item"] [] B ok hb hl h0 (fun _ q => absurd q List.not_mem_nil) fun e L A' ok' E hcd => ?_
  simp only [mk, bnd, List.zip_cons_cons, List.zip_nil_right, List.map_cons, List.map_nil, List.cons_append, List.nil_append]
  refine W_cons (W_If ?_)
  walk_at "ws"
  refine i_true (by walk_at "mem") (by omega) ?_
  refine brOf (fun hne => ?_) (fun hne => ?_)
  · have hn0 : 0 < ns.length := by cases ns with | nil => cases hne | cons _ _ => exact Nat.succ_pos _
    walk_at "ws"
    refine i_sub 0 (by walk_at "mem") rfl hn0 (by omega) ?_
    walk_at "ws"
    refine brDec (fun hlt => ?_) (fun hlt => ?_)
    · walk_at "ws"
      refine W_AssignTup swapped_sub ?_
      walk_at "ws"
      refine i_sub 0 (by walk_at "mem") rfl hn0 (by omega) ?_
      walk_at "ws"
      refine newTup (by simp) fun b => W_aPair ok'.hd ?_
      walk_at "ws"
      refine i_set 0 (by walk_at "mem") rfl hn0 (by omega) ?_
      walk_at "ws"
      refine W_callF 15 B E ?_
      walk_at "ws"
      refine E_call1 _ Up.head (fun h s => siftup_ok B ok' s.bs (s.is (by walk_at "mem")) h0 (by rw [List.length_set]; exact hn0) (by rw [List.length_set]; omega)) ?_
      rintro v rfl
      have e1 : (ns.set 0 x).getD 0 0 = x := by cases ns with | nil => cases hn0 | cons _ _ => rfl
      rw [e1, if_pos ⟨hn0, hlt⟩, if_pos ⟨hn0, hlt⟩]
      walk_at "ws"
      exact fun h s => ⟨⟨_, rfl⟩, s.kp, s.is (by walk_at "mem")⟩
    · walk_at "ws"
      rw [if_neg (fun q => hlt q.2), if_neg (fun q => hlt q.2)]
      exact fun h s => ⟨⟨_, rfl⟩, s.kp, s.is (by walk_at "mem")⟩
  · have hn0 : ¬ 0 < ns.length := by cases ns with | nil => exact Nat.lt_irrefl _ | cons _ _ => cases hne
    walk_at "ws"
    rw [if_neg (fun q => hn0 q.1), if_neg (fun q => hn0 q.1)]
    exact fun h s => ⟨⟨_, rfl⟩, s.kp, s.is (by walk_at "mem")⟩

end
section
open PySem PySem.W PyProof.Rows PySem.Calls
set_option maxHeartbeats 4000000
variable {c : Cf} {A : Around} {H₀ hh : Heap}
theorem bra_eq (lo hi : Nat) : Str.ofString "[" ++ ltr lo ++ Str.ofString "-" ++ ltr hi ++ Str.ofString "]" = bra lo hi := by
  have e1 : Str.ofString "[" = ⟨#[91]⟩ := by decide +kernel
  have e2 : Str.ofString "-" = ⟨#[45]⟩ := by decide +kernel
  have e3 : Str.ofString "]" = ⟨#[93]⟩ := by decide +kernel
  rw [e1, e2, e3]; rfl

theorem xl1 (a : Nat) : (Str.mk #[a]).length = 1 := rfl
theorem xlo : (Str.ofString "[").length = 1 := by decide +kernel
theorem xlm : (Str.ofString "-").length = 1 := by decide +kernel
theorem xlc : (Str.ofString "]").length = 1 := by decide +kernel

theorem sign_ok {d : Nat} {t0 : Tok} (B : Bs c H₀) (ok : Ok A 1) (hb : le H₀ hh) : W c A (call (.ref (c.fa 17)) [.int d t0]) (PureQ hh fun v => ∃ t, v = .str (sgn d) t) hh := by
  refine W_def0 (ims := []) 17 ["draw"] ["low", "high", "bracket"] B ok hb (fun _ q => absurd q List.not_mem_nil) fun e L A' ok' E hcd => ?_
  simp only [mk, bnd, List.zip_cons_cons, List.zip_nil_right, List.map_cons, List.map_nil, List.cons_append, List.nil_append]
  refine W_cons ?_
  walk_at "ws"
  refine b_modN d 8 rfl rfl (by decide) fun _ => ?_
  refine x_sub (d % 8) _ rfl (by omega) (abc_at _ (by omega)) ?_
  walk_at "ws"
  refine b_divN d 8 rfl rfl (by decide) fun _ => ?_
  walk_at "ws"
  refine b_modN (d / 8) 8 rfl rfl (by decide) fun _ => ?_
  refine x_sub (d / 8 % 8) _ rfl (by omega) (abc_at _ (by omega)) ?_
  walk_at "ws"
  refine x_add (by rw [xlo, xl1]; decide) fun _ => ?_
  walk_at "ws"
  refine x_add (by rw [Str.length_append, xlo, xl1, xlm]; decide) fun _ => ?_
  walk_at "ws"
  refine x_add (by rw [Str.length_append, Str.length_append, xlo, xl1, xlm, xl1]; decide) fun _ => ?_
  walk_at "ws"
  refine x_add (by rw [Str.length_append, Str.length_append, Str.length_append, xlo, xl1, xlm, xl1, xlc]; decide) fun _ => ?_
  walk_at "ws"
  refine newLs (LsP _) ⟨0, rfl⟩ (by simp) fun a => ?_
  walk_at "ws"
  refine b_divN d 64 rfl rfl (by decide) fun _ => ?_
  walk_at "ws"
  refine b_modN (d / 64) 4 rfl rfl (by decide) fun _ => ?_
  refine ls_sub (d / 64 % 4) (by walk_at "mem") rfl ?_ (by simp) fun v hv => ?_
  · exact Nat.mod_lt (d / 64) (by decide)
  have hq : Str.ofString "?" = ⟨#[63]⟩ := by decide +kernel
  have h4 : d / 64 % 4 < 4 := Nat.mod_lt _ (by decide)
  refine endPure ?_
  show ∃ t, v = .str (sgn d) t
  unfold sgn
  generalize d / 64 % 4 = j at hv h4
  match j, h4 with
  | 0, _ => cases hv; exact ⟨_, by rw [hq]; rfl⟩
  | 1, _ => cases hv; exact ⟨_, rfl⟩
  | 2, _ => cases hv; exact ⟨_, by rw [← bra_eq]; rfl⟩
  | 3, _ => cases hv; exact ⟨_, by rw [← bra_eq]; rfl⟩

end
section
open PySem PySem.W PyProof.Rows PySem.Calls
set_option maxHeartbeats 4000000
variable {c : Cf} {A : Around} {H₀ hh : Heap} {M : List Addr}
theorem meant_ok {d : Nat} {t0 : Tok} (B : Bs c H₀) (ok : Ok A 1) (O : Old H₀ hh M) : W c A (call (.ref (c.fa 18)) [.int d t0]) (RetQ hh M (mnt d)) hh := by
  refine W_defRC (ims := []) 18 "draw" ["between"] ["high", "low"] false B ok O (fun _ q => absurd q List.not_mem_nil) fun e L A' oc hoc ok' E => ?_
  match oc, hoc with
  | [(_, ch), (_, cl)], hoc =>
  simp only [List.map_cons, List.map_nil, List.cons.injEq, and_true] at hoc
  obtain ⟨rfl, rfl⟩ := hoc
  simp only [List.map_cons, List.map_nil, Bool.false_eq_true, if_false, Bool.false_and, List.cons_append, List.nil_append]
  refine W_cons ?_
  walk_at "ws"
  refine b_modN d 8 rfl rfl (by decide) fun _ => ?_
  walk_at "ws"
  refine b_divN d 8 rfl rfl (by decide) fun _ => ?_
  walk_at "ws"
  refine b_modN (d / 8) 8 rfl rfl (by decide) fun _ => ?_
  walk_at "ws"
  refine W_K8A (pk := fun k => decide (d % 8 ≤ k) && decide (k ≤ d / 8 % 8)) ok'.hd B E (ccl := [("low", cl), ("high", ch)]) (by kernel_rfl) ?_ (fun D => by walk_at "mem") fun D => ?_
  · intro h₂ I C cenv led' ims' R k t Ec hk hF hI q
    walk_at "ws"
    refine brDec (fun h1 => ?_) (fun h1 => ?_)
    · walk_at "ws"
      refine brDec (fun h2 => ?_) (fun h2 => ?_)
      · walk_at "ws"
        simpa [Int.ofNat_le.mp h1, Int.ofNat_le.mp h2] using q
      · walk_at "ws"
        have h2 : ¬ k ≤ d / 8 % 8 := fun z => h2 (Int.ofNat_le.mpr z)
        simpa [h2] using q
    · walk_at "ws"
      have h1 : ¬ d % 8 ≤ k := fun z => h1 (Int.ofNat_le.mpr z)
      simpa [h1] using q
  · walk_at "ws"
    refine newLsIm [.int 0, .int 1, .int 2, .int 3, .int 4, .int 5, .int 6, .int 7] (.int (.int (.int (.int (.int (.int (.int (.int .nil)))))))) (by simp) fun a => ?_
    walk_at "ws"
    refine newLsIm [.int (d % 8 : Nat)] (.int .nil) (by simp) fun b => ?_
    walk_at "ws"
    refine newLs (LsP _) ⟨0, rfl⟩ (by simp) fun x => ?_
    walk_at "ws"
    refine b_divN d 64 rfl rfl (by decide) fun _ => ?_
    walk_at "ws"
    refine b_modN (d / 64) 4 rfl rfl (by decide) fun _ => ?_
    refine ls_sub (d / 64 % 4) (by walk_at "mem") rfl ?_ (by simp) fun v hv => ?_
    · exact Nat.mod_lt (d / 64) (by decide)
    refine endRet (fun q hq => .tail _ (.tail _ (.tail _ hq))) ?_
    have h4 : d / 64 % 4 < 4 := Nat.mod_lt _ (by decide)
    unfold mnt
    generalize d / 64 % 4 = j at hv h4
    match j, h4 with
    | 0, _ => cases hv; exact .tail _ (.head _)
    | 1, _ => cases hv; exact .head _
    | 2, _ => cases hv; exact .tail _ (.tail _ (.head _))
    | 3, _ => cases hv; exact .tail _ (.tail _ (.head _))

theorem letters_ok {d : Nat} {t0 : Tok} (B : Bs c H₀) (ok : Ok A 1) (O : Old H₀ hh M) : W c A (call (.ref (c.fa 19)) [.str (itm d) t0]) (RetQ hh M (mnt d)) hh := by
  refine W_defRC (ims := []) 19 "item" [] ["item"] true B ok O (fun _ q => absurd q List.not_mem_nil) fun e L A' oc hoc ok' E => ?_
  match oc, hoc with
  | [(_, ci)], hoc =>
  simp only [List.map_cons, List.map_nil, List.cons.injEq, and_true] at hoc
  subst hoc
  simp only [List.map_cons, List.map_nil, if_true, Bool.true_and, beq_self_eq_true, List.cons_append, List.nil_append]
  refine W_cons ?_
  refine W_If ?_
  walk_at "ws"
  rw [eNone]
  rcases itmOf d with ⟨e1, e2⟩ | ⟨e1, e2⟩ | ⟨e1, e2⟩ | ⟨e1, e2⟩ <;> rw [e1, e2]
  · refine brT ?_
    walk_at "ws"
    exact newLsIm [] .nil (by simp) fun a => endRet (fun q hq => .tail _ hq) (.head _)
  · refine brF ?_
    walk_at "ws"
    refine W_If ?_
    walk_at "ws"
    rw [eDot]
    refine brT ?_
    walk_at "ws"
    exact newLsIm [.int 0, .int 1, .int 2, .int 3, .int 4, .int 5, .int 6, .int 7] (.int (.int (.int (.int (.int (.int (.int (.int .nil)))))))) (by simp) fun a => endRet (fun q hq => .tail _ hq) (.head _)
  · refine brF ?_
    walk_at "ws"
    refine W_If ?_
    walk_at "ws"
    rw [eDot]
    refine brOf (fun q => by rw [ltr_dot] at q; cases q) (fun _ => ?_)
    walk_at "ws"
    refine W_If ?_
    walk_at "ws"
    refine W_callB "len" B E ?_
    walk_at "ws"
    refine x_len (by rw [ltr_len]; decide) fun _ => ?_
    walk_at "ws"
    refine brT ?_
    walk_at "ws"
    refine W_K8 (pk := fun k => ltr k == ltr (d % 8)) ok'.hd B E (ccl := [("item", ci)]) (by kernel_rfl) ?_ fun D => endRet (fun q hq => .tail _ hq) (.head _)
    intro h₂ I C cenv led' ims' R k t Ec hk hF hI q
    walk_at "ws"
    refine x_sub k _ rfl (by omega) (abc_at _ hk) ?_
    walk_at "ws"
    exact q
  · refine brF ?_
    walk_at "ws"
    refine W_If ?_
    walk_at "ws"
    rw [eDot]
    refine brF ?_
    walk_at "ws"
    refine W_If ?_
    walk_at "ws"
    refine W_callB "len" B E ?_
    walk_at "ws"
    refine x_len (by rw [bra_len]; decide) fun _ => ?_
    walk_at "ws"
    refine brF ?_
    walk_at "ws"
    refine W_K8 (pk := fun k => decide (d % 8 ≤ k) && decide (k ≤ d / 8 % 8)) ok'.hd B E (ccl := [("item", ci)]) (by kernel_rfl) ?_ fun D => endRet (fun q hq => .tail _ hq) (.head _)
    intro h₂ I C cenv led' ims' R k t Ec hk hF hI q
    walk_at "ws"
    refine x_sub 1 (97 + d % 8) rfl (by decide) rfl fun _ => ?_
    walk_at "ws"
    refine x_sub k _ rfl (by omega) (abc_at _ hk) ?_
    walk_at "ws"
    refine brDec (fun h1 => ?_) (fun h1 => ?_)
    · walk_at "ws"
      have h1 : ¬ d % 8 ≤ k := Nat.not_le.mpr ((lt1' _ _).mp h1)
      simpa [h1] using q
    · walk_at "ws"
      refine x_sub k _ rfl (by omega) (abc_at _ hk) ?_
      walk_at "ws"
      refine x_sub 3 (97 + d / 8 % 8) rfl (by decide) rfl fun _ => ?_
      walk_at "ws"
      have h1 : d % 8 ≤ k := Nat.not_lt.mp fun z => h1 ((lt1' _ _).mpr z)
      refine brDec (fun h2 => ?_) (fun h2 => ?_)
      · walk_at "ws"
        have h2 : ¬ k ≤ d / 8 % 8 := Nat.not_le.mpr ((lt1' _ _).mp h2)
        simpa [h2] using q
      · walk_at "ws"
        have h2 : k ≤ d / 8 % 8 := Nat.not_lt.mp fun z => h2 ((lt1' _ _).mpr z)
        simpa [h1, h2] using q

end
section
open PySem PySem.W PyProof.Rows PySem.Calls
set_option maxHeartbeats 4000000
variable {c : Cf} {A : Around} {H₀ hh : Heap} {l : Addr} {ns : List Int}
theorem medlow_ok (B : Bs c H₀) (ok : Ok A 1) (hb : le H₀ hh) (hl : ∃ as, Reads hh (.ref l) (iDat ns) as) (hz : ns.length < 64) (hn : 0 < ns.length) :
    W c A (call (.ref (c.fa 3)) [.ref l]) (PureQ hh fun v => ∃ t, v = .int ((srt ns).getD ((ns.length - 1) / 2) 0) t) hh := by
  refine W_def0 (ims := [(.ref l, iDat ns)]) 3 ["data"] ["n"] B ok hb (fun p q => by rw [List.mem_singleton.mp q]; exact hl) fun e L A' ok' E hcd => ?_
  simp only [mk, bnd, List.zip_cons_cons, List.zip_nil_right, List.map_cons, List.map_nil, List.cons_append, List.nil_append]
  have hk : (srt ns).length = ns.length := srt_len ns
  refine W_cons ?_
  walk_at "ws"
  refine W_callB "sorted" B E ?_
  walk_at "ws"
  refine e_sorted (.inl (.head _)) hz fun a => ?_
  walk_at "ws"
  refine W_callB "len" B E ?_
  walk_at "ws"
  refine i_len (by walk_at "mem") (by omega) ?_
  walk_at "ws"
  refine W_If ?_
  walk_at "ws"
  refine brOf (fun q => by simp only [beq_iff_eq] at q; omega) (fun _ => ?_)
  walk_at "ws"
  refine W_If ?_
  walk_at "ws"
  refine b_modN (srt ns).length 2 rfl rfl (by decide) fun _ => ?_
  walk_at "ws"
  refine brOf (fun q => ?_) (fun q => ?_) <;> simp only [beq_iff_eq, beq_eq_false_iff_ne] at q
  · walk_at "ws"
    refine b_divN (srt ns).length 2 rfl rfl (by decide) fun _ => ?_
    refine i_sub ((ns.length - 1) / 2) (by walk_at "mem") (by omega) (by omega) (by omega) fun _ => ?_
    exact endPure ⟨_, rfl⟩
  · walk_at "ws"
    refine b_divN (srt ns).length 2 rfl rfl (by decide) fun _ => ?_
    walk_at "ws"
    refine i_sub ((ns.length - 1) / 2) (by walk_at "mem") (by omega) (by omega) (by omega) fun _ => ?_
    exact endPure ⟨_, rfl⟩
theorem medhigh_ok (B : Bs c H₀) (ok : Ok A 1) (hb : le H₀ hh) (hl : ∃ as, Reads hh (.ref l) (iDat ns) as) (hz : ns.length < 64) (hn : 0 < ns.length) :
    W c A (call (.ref (c.fa 4)) [.ref l]) (PureQ hh fun v => ∃ t, v = .int ((srt ns).getD (ns.length / 2) 0) t) hh := by
  refine W_def0 (ims := [(.ref l, iDat ns)]) 4 ["data"] ["n"] B ok hb (fun p q => by rw [List.mem_singleton.mp q]; exact hl) fun e L A' ok' E hcd => ?_
  simp only [mk, bnd, List.zip_cons_cons, List.zip_nil_right, List.map_cons, List.map_nil, List.cons_append, List.nil_append]
  have hk : (srt ns).length = ns.length := srt_len ns
  refine W_cons ?_
  walk_at "ws"
  refine W_callB "sorted" B E ?_
  walk_at "ws"
  refine e_sorted (.inl (.head _)) hz fun a => ?_
  walk_at "ws"
  refine W_callB "len" B E ?_
  walk_at "ws"
  refine i_len (by walk_at "mem") (by omega) ?_
  walk_at "ws"
  refine W_If ?_
  walk_at "ws"
  refine brOf (fun q => by simp only [beq_iff_eq] at q; omega) (fun _ => ?_)
  walk_at "ws"
  refine b_divN (srt ns).length 2 rfl rfl (by decide) fun _ => ?_
  refine i_sub (ns.length / 2) (by walk_at "mem") (by omega) (by omega) (by omega) fun _ => ?_
  exact endPure ⟨_, rfl⟩

end
section
open PySem PySem.W PyProof.Rows PySem.Calls
theorem Ent.ex {α : Sort _} {P : α → Heap → Prop} {T : Heap → Prop} (f : ∀ x, Ent (P x) T) : Ent (fun h => ∃ x, P x h) T := fun h ⟨x, p⟩ => f x h p
theorem Ent.imp {p : Prop} {S T : Heap → Prop} (f : p → Ent S T) : Ent (fun h => p ∧ S h) T := fun h ⟨x, s⟩ => f x h s
section
variable {c : Cf} {A : Around} {e : Env} {S : Heap → Prop} {x : Str} {pos pos' : Pos} {L : Addr} {cl : List (Str × Addr)} {nm : List (Str × NameKind)}
theorem W_AssignC {value : Expr} {Q : Flow → Heap → Prop} (E : Ev e L cl nm) (hl : nm.lookup x = some .cell) (H : Ent S (W c A (eval value e) (fun v => W c A (storeName e x v) (fun _ => Q .next)))) : Ent S (W c A (exec (.Assign [.Name x pos'] value pos) e) Q) :=
  fun h s => ⟨fun _ _ hg => wpAny_Assign_Name ((H h s).up hg fun _ _ _ _ hg' x => x.up hg' fun _ _ _ _ hg'' q => Post.mk' hg'' q) (by
    have hk := E.kindOf hl
    unfold swapsWith
    have h0 : (some NameKind.cell == some NameKind.local) = false := rfl
    cases value <;> first | rfl | simp [hk, h0])⟩
theorem W_noTest {R : Bool → Heap → Prop} (q : Ent S (R true)) : Ent S (W c A (testsT [] e) R) := fun h s => ⟨fun tk g hg => wpAny_pure (Post.mk' hg (q h s))⟩
end
section
variable {c : Cf} {A : Around} {H₀ H h₂ : Heap} {X : List Addr} {L L' I l : Addr} {m : List (Str × Option Value)} {led led' : List (Addr × OP)} {ims : List (Value × PyData)} {P : Nat → OP} {ds : List PyData} {rq : List (Addr × OP) → List (Value × PyData) → Prop} {ns : List Int}
theorem f_next {K : Value → Heap → Prop} (N : Nexts c A P ds rq) (i : Nat) (d : PyData) (hd : ds[i]? = some d) (hq : rq led ims)
    (q : ∀ v, Ent (St H₀ H X L m ((I, P (i + 1)) :: led) ((v, d) :: ims)) (K v)) : Ent (St H₀ H X L m ((I, P i) :: led) ims) (W c A (pyNext (.ref I)) (someQ K)) := N.item i d hd hq q
theorem f_done {T : Heap → Prop} (N : Nexts c A P ds rq) (n : Nat) (hn : n = ds.length) (hq : rq led ims) (q : Ent (St H₀ H X L m led ims) T) : Ent (St H₀ H X L m ((I, P n) :: led) ims) (W c A (pyNext (.ref I)) (doneQ T)) := by
  subst hn; exact N.fin hq q
theorem srcF (hF : ∀ q ∈ frz h₂ L' led', q ∈ led) (hm : (l, IL ns) ∈ led') : SrcI led ims l ns :=
  .inr ⟨_, hF _ (.tail _ (List.mem_map.mpr ⟨_, hm, rfl⟩)), fun _ p => p.2⟩
end
section
variable {c : Cf} {A : Around} {H₀ H : Heap} {X : List Addr} {L a b : Addr} {m : List (Str × Option Value)} {led : List (Addr × OP)} {ims : List (Value × PyData)} {Q : Value → Heap → Prop} {ns ms : List Int}
theorem l_addS (h1 : SrcI led ims a ns) (h2 : SrcI led ims b ms) (hz : ns.length + ms.length ≤ 1000) (q : ∀ x, Ent (St H₀ H X L m ((x, IL (ns ++ ms)) :: led) ims) (Q (.ref x))) : Ent (St H₀ H X L m led ims) (W c A (binaryOp .Add (.ref a) (.ref b)) Q) := fun h s => by
  obtain ⟨vs, ⟨⟨cls, dd, data, sl⟩, ho, hc, n, hd⟩, i1⟩ := h1.at_ s
  obtain ⟨ws, ⟨⟨cls2, dd2, data2, sl2⟩, ho2, hc2, n2, hd2⟩, i2⟩ := h2.at_ s
  simp only at hc hd hc2 hd2
  subst hc hd hc2 hd2
  have hz' : vs.length + ws.length ≤ 1000 := by rw [i1.length, i2.length]; exact hz
  refine ⟨fun tk g hg => concat_meets ⟨_, ho, rfl⟩ ⟨_, ho2, rfl⟩ noFill_list_add seq_list_add PySem.F.slot_list_add PySem.F.entry_list_add (PySem.F.args_list_add_2 _ _) (list_addW a b vs.toArray ws.toArray n n2 dd dd2 sl sl2 (by simpa using sz hz')) ⟨ho, ho2, Post.mk' hg (q _ _ (s.pushLed rfl ⟨vs ++ ws, 0, i1.append i2, ?_⟩))⟩⟩
  simp [W.listOf]
end

section
variable {H₀ H : Heap} {X : List Addr} {L a : Addr} {m : List (Str × Option Value)} {led led' : List (Addr × OP)} {ims : List (Value × PyData)} {T : Heap → Prop} {ys : List Value}
/-- a list of the ledger, read -/
theorem lsIm (r : Rem (a, LsP ys) led led') (ds : List PyData) (hl : ys.length = ds.length) (hi : ∀ p ∈ ys.zip ds, p ∈ ims) (q : Ent (St H₀ H X L m led' ((.ref a, .list ds) :: ims)) T) : Ent (St H₀ H X L m led ims) T := fun h s => by
  have s := s.perm r.perm
  obtain ⟨o, h1, n, rfl⟩ := s.ld _ (.head _)
  have s' := s.forget (led' := led') (ims' := ims) (List.sublist_cons_self _ _) (fun p hp => hp)
  obtain ⟨as, ra⟩ := readsAll_of (h := hideAll h (L :: led'.map (·.1))) hl fun p hp => s'.im _ (hi p hp)
  have nd := s.nd
  simp only [List.map_cons, List.nodup_cons, List.mem_cons, not_or] at nd
  exact q h (s'.addIm (.list (hideAll_get _ h1 fun q => by
    rcases List.mem_cons.mp q with e | q
    · exact nd.1.1 e.symm
    · exact nd.2.1 q) rfl rfl (by simpa using ra)))
end

theorem noTest (ds : List PyData) : ds.filter (fun _ => true) = ds := List.filter_eq_self.mpr fun _ _ => rfl
theorem dsK_of {d : PyData} (hd : d ∈ dsK) : ∃ k : Nat, k < 8 ∧ d = .int k := by
  obtain ⟨i, hi, rfl⟩ := List.mem_map.mp hd
  exact ⟨i, List.mem_range.mp hi, by congr 1; omega⟩
/-- on an int -/
def onInt (f : Int → Int) : PyData → PyData
  | .int i => .int (f i)
  | d => d
theorem onInt_list (f : Int → Int) (r : List Int) : ((r.map PyData.int).filter fun _ => true).map (onInt f) = (r.map f).map .int := by
  rw [noTest, List.map_map, List.map_map]; rfl
theorem onInt_8 (f : Int → Int) : (dsK.filter fun _ => true).map (onInt f) = ((List.range 8).map fun k => f (k : Nat)).map .int := by
  rw [noTest, List.map_map, List.map_map]
  apply List.map_congr_left
  intro k _
  show PyData.int (f (0 + (k : Int) * 1)) = .int (f k)
  congr 2; omega
theorem cStep_im (ways r : List Int) : PyData.list ((dsK.filter fun _ => true).map (onInt fun k => ways.getD k.toNat 0 + minL (r.map fun x => absI (k - x)))) = iDat (cStep ways r) := by
  rw [onInt_8]; rfl
end
section
open PySem PySem.W PyProof.Rows PySem.Calls
set_option maxHeartbeats 4000000
section
variable {c : Cf} {A : Around} {H₀ hh : Heap} {M : List Addr}
def CJ (H₀ hh : Heap) (M : List Addr) (L l tl fc rc wc : Addr) (rws : List (List Int)) (I : Addr) (i : Nat) : Heap → Prop := fun h => ∃ wl, ∃ el, ∃ fv, ∃ rv, ∃ ys, ys.length = i ∧
  St H₀ hh M L [("rows", some (.ref l)), ("ends", some (.ref el)), ("told", some (.ref tl))] ((I, LI l i) :: (tl, LsP ys) :: (fc, CellP fv) :: (rc, CellP rv) :: (wc, CellP (some (.ref wl))) :: frzM hh M) ((.ref el, iDat (cEnd rws i)) :: (.ref wl, iDat (cWays rws i)) :: (.ref l, .list (rws.map iDat)) :: ys.zip (cTold rws i)) h
theorem counting_ok {v : Value} {rws : List (List Int)} (B : Bs c H₀) (ok : Ok A 3) (O : Old H₀ hh M) (hv : ∃ as, Reads (hideAll hh M) v (.list (rws.map iDat)) as) (hn : rws.length ≤ 9) (hr : ∀ r ∈ rws, 0 < r.length ∧ r.length ≤ 8) :
    W c A (call (.ref (c.fa 21)) [v]) (RetQ hh M (.list (cTold rws rws.length))) hh := by
  refine W_defRC (ims := [(v, .list (rws.map iDat))]) 21 "rows" ["ends", "told"] ["fewest", "row", "ways"] false B ok O (fun p q => by rw [List.mem_singleton.mp q]; exact hv) fun e L A' oc hoc ok' E => ?_
  match oc, hoc with
  | [(_, fc), (_, rc), (_, wc)], hoc =>
  simp only [List.map_cons, List.map_nil, List.cons.injEq, and_true] at hoc
  obtain ⟨rfl, rfl, rfl⟩ := hoc
  simp only [List.map_cons, List.map_nil, Bool.false_eq_true, if_false, Bool.false_and, List.cons_append, List.nil_append]
  refine im_ref (.head _) fun l e => ?_
  subst e
  refine W_cons ?_
  walk_at "ws"
  refine newLs (IL [0]) ⟨_, _, .cons _ _ .nil, rfl⟩ (by simp) fun z => ?_
  walk_at "ws"
  refine l_mul8 (by walk_at "mem") fun wl => freeze ?_
  walk_at "ws"
  refine newLsIm [] .nil (by simp) fun el => ?_
  walk_at "ws"
  refine newLs (LsP []) ⟨0, rfl⟩ (by simp) fun tl => ?_
  walk_at "ws"
  refine W_For rws.length (CJ H₀ hh M L l tl fc rc wc rws) ?_ (fun I i hi => Ent.ex fun wl => Ent.ex fun el => Ent.ex fun fv => Ent.ex fun rv => Ent.ex fun ys => Ent.imp fun hy => ?_) fun I => Ent.ex fun wl => Ent.ex fun el => Ent.ex fun fv => Ent.ex fun rv => Ent.ex fun ys => Ent.imp fun hy => ?_
  · walk_at "ws"
    refine e_iter _ (.tail _ (.tail _ (.head _))) fun I => ?_
    exact Ent.pick (led' := (I, LI l 0) :: (tl, LsP []) :: _) (.cons .head (.cons .head (.sub (List.sublist_cons_self _ _)))) (fun _ q => q)
      fun h s => ⟨wl, el, none, none, [], rfl, s⟩
  · have hw := cWays_len rws i (Nat.le_of_lt hi)
    have hw' := cWays_len rws (i + 1) hi
    have he := cEnd_len rws i (Nat.le_of_lt hi)
    have he' := cEnd_len rws (i + 1) hi
    obtain ⟨hr1, hr2⟩ := hr _ (List.getElem_mem hi)
    have hr3 : rws[i].length ≤ 1000 := Nat.le_trans hr2 (by decide)
    refine f_next (nexts_list ok'.hd l _) i (iDat rws[i]) (by simp [hi]) (.tail _ (.tail _ (.head _))) fun v => im_ref (.head _) fun r e => ?_
    subst e
    walk_at "ws"
    refine W_AssignC E (by kernel_rfl) ?_
    refine W_Comp (mO := fun _ => []) (p := fun _ => true) (g := onInt fun k => (cWays rws i).getD k.toNat 0 + minL (rws[i].map fun x => absI (k - x))) ["k"] ok'.hd E (ccl := [("ways", wc), ("row", rc)]) (by kernel_rfl) (nexts_range ok'.hd 0 1 8) (by decide) 
      (W_callT "range" B E (W_items (W_int fun t => W_items_nil (range_iter 8 rfl (by decide))))) (fun _ _ _ _ _ => trivial) ?_ (fun D => ?_) (hm0 := fun _ => rfl)
    · intro h₂ I2 C cenv oc hoc Ec
      match oc, hoc with
      | [(_, ck)], hoc =>
      simp only [List.map_cons, List.map_nil, List.cons.injEq, and_true] at hoc
      subst hoc
      replace Ec : Ev cenv C [("k", ck), ("ways", wc), ("row", rc)] _ := Ec
      refine ⟨fun u v x r ims R q => W_aName (W_storeCell Ec (by kernel_rfl) clHead (.tail .head) q), fun v d led ims R hd hF hC hv hI q => W_noTest q, fun v d led ims R hd hp hF hC hv hI q => ?_⟩
      obtain ⟨k, hk, rfl⟩ := dsK_of hd
      refine im_int hv fun t e => ?_
      subst e
      have hck := hC _ (.head _)
      walk_at "ws"
      refine im_sub k (.inl (hI _ (.tail _ (.tail _ (.head _))))) (.inl rfl) (Nat.lt_of_lt_of_eq hk hw.symm) (Nat.le_trans (Nat.le_of_eq hw) (by decide)) fun _ => ?_
      walk_at "ws"
      refine W_callB "min" B Ec ?_
      walk_at "ws"
      refine W_Comp (m := []) (led := led) (mO := fun u => [("letter", u)]) (p := fun _ => true) (g := onInt fun x => absI (k - x)) [] ok'.hd Ec (ccl := [("k", ck)]) (by kernel_rfl) (nexts_list ok'.hd r (rws[i].map .int)) (Nat.le_trans (Nat.le_of_eq (List.length_map _)) (Nat.le_trans hr2 (by decide))) (hm0 := fun z => lk_none [_] z) ?_ (fun _ _ _ _ hJ => hJ _ (hI _ (.head _))) ?_ fun D => ?_
      · walk_at "ws"
        exact e_iter _ (hI _ (.head _)) fun _ _ s => s
      · intro h₃ I3 C3 cenv3 oc hoc E3
        obtain rfl : oc = [] := List.map_eq_nil_iff.mp hoc
        replace E3 : Ev cenv3 C3 [("k", ck)] _ := E3
        refine ⟨fun u v x r ims R q => W_aName (W_store E3 (by kernel_rfl) .head q), fun v d led ims R hd hF hC hv hI q => W_noTest q, fun v d led ims R hd hp hF' hC' hv' hI' q => ?_⟩
        obtain ⟨y, hy, rfl⟩ := List.mem_map.mp hd
        refine im_int hv' fun t e => ?_
        subst e
        walk_at "ws"
        refine W_callB "abs" B E3 ?_
        walk_at "ws"
        refine e_abs fun _ => ?_
        exact addInt (q _)
      · rw [onInt_list]
        walk_at "ws"
        refine e_min ok'.hd (.inl (.head _)) (by rw [List.length_map]; exact hr1) fun _ => ?_
        walk_at "ws"
        exact addInt (Ent.weak (List.Sublist.refl _) (fun p hp => (List.mem_cons.mp hp).elim (fun e => List.mem_cons.mpr (.inl e)) fun hp => .tail _ (.tail _ hp)) (q (.int _ _)))
    · rw [cStep_im, ← cWays_succ hi]
      walk_at "ws"
      refine im_sub 0 (.inl (.tail _ (.head _))) (.inl rfl) hr1 hr3 fun _ => ?_
      walk_at "ws"
      refine im_sub (rws[i].length - 1) (.inl (.tail _ (.head _))) (.inr ⟨by decide, by omega⟩) (by omega) hr3 fun _ => ?_
      walk_at "ws"
      refine newLsIm [.int (rws[i].getD 0 0), .int (rws[i].getD (rws[i].length - 1) 0)] (.int (.int .nil)) (by simp) fun a => ?_
      walk_at "ws"
      refine l_addS (ms := [rws[i].getD 0 0, rws[i].getD (rws[i].length - 1) 0]) (.inl (.tail _ (.tail _ (.tail _ (.head _))))) (.inl (.head _)) (by rw [he]; simp only [List.length_cons, List.length_nil]; omega) fun el' => freeze ?_
      rw [show cEnd rws i ++ _ = cEnd rws (i + 1) from (cEnd_succ hi).symm]
      walk_at "ws"
      refine W_callB "min" B E ?_
      walk_at "ws"
      refine e_min ok'.hd (.inl (.tail _ (.tail _ (.head _)))) (by rw [hw']; decide) fun _ => ?_
      walk_at "ws"
      refine W_ml slot_list_append type_list_append E (by walk_at "mem") (by walk_at "mem") (fun _ q => ⟨_, q⟩) ?_
      walk_at "ws"
      refine W_callF 3 B E ?_
      walk_at "ws"
      refine E_pure _ (fun h s => medlow_ok B (ok'.less (by decide)) s.bs (s.read (.head _)) (by omega) (by omega)) fun v hv => ?_
      obtain ⟨_, rfl⟩ := hv
      walk_at "ws"
      refine W_callF 4 B E ?_
      walk_at "ws"
      refine E_pure _ (fun h s => medhigh_ok B (ok'.less (by decide)) s.bs (s.read (.head _)) (by omega) (by omega)) fun v hv => ?_
      obtain ⟨_, rfl⟩ := hv
      walk_at "ws"
      refine W_K8 (pk := fun k => (cWays rws (i + 1)).getD k 0 == minL (cWays rws (i + 1))) ok'.hd B E (ccl := [("ways", wc), ("fewest", fc)]) (by kernel_rfl) ?_ fun D2 => ?_
      · intro h₂ I C cenv led' ims' R k t Ec hk hF hI q
        walk_at "ws"
        refine im_sub k (.inl (hI _ (.tail _ (.tail _ (.head _))))) (.inl rfl) (Nat.lt_of_lt_of_eq hk hw'.symm) (Nat.le_trans (Nat.le_of_eq hw') (by decide)) fun _ => ?_
        walk_at "ws"
        exact q
      walk_at "ws"
      refine W_callB "sorted" B E ?_
      walk_at "ws"
      refine e_sorted (.inl (.tail _ (.head _))) (by omega) fun sl => freeze ?_
      walk_at "ws"
      refine newLsIm [.int _, .int _, .int _, _, _] (.int (.int (.int (.im (.tail _ (.head _)) (.im (.head _) .nil))))) (by simp) fun nl => ?_
      rw [show PyData.list [.int _, .int _, .int _, k8 _, _] = cRow (cWays rws (i + 1)) (cEnd rws (i + 1)) from rfl]
      walk_at "ws"
      refine l_append (by walk_at "mem") (Nat.le_trans (Nat.le_of_eq hy) (Nat.le_trans (Nat.le_of_lt hi) (Nat.le_trans hn (by decide)))) ?_
      walk_at "ws"
      refine Ent.weak (List.Sublist.refl _) (ims' := (Value.ref el', iDat (cEnd rws (i + 1))) :: (.ref D, iDat (cWays rws (i + 1))) :: (.ref l, .list (rws.map iDat)) :: (ys ++ [Value.ref nl]).zip (cTold rws (i + 1))) ?_ fun h s => ⟨D, el', _, _, ys ++ [Value.ref nl], by rw [List.length_append, hy]; rfl, s⟩
      rw [cTold_succ, zip_snoc (by rw [hy, cTold, List.length_map, List.length_range])]
      intro p hp
      rcases List.mem_cons.mp hp with rfl | hp
      · exact .tail _ (.tail _ (.tail _ (.head _)))
      rcases List.mem_cons.mp hp with rfl | hp
      · exact .tail _ (.tail _ (.tail _ (.tail _ (.tail _ (.head _)))))
      rcases List.mem_cons.mp hp with rfl | hp
      · exact .tail _ (.tail _ (.tail _ (.tail _ (.tail _ (.tail _ (.tail _ (.tail _ (.tail _ (.head _)))))))))
      rcases List.mem_append.mp hp with hp | hp
      · exact .tail _ (.tail _ (.tail _ (.tail _ (.tail _ (.tail _ (.tail _ (.tail _ (.tail _ (.tail _ hp)))))))))
      · rw [List.mem_singleton.mp hp]; exact .head _
  · refine f_done (nexts_list ok'.hd l _) _ (by simp) (.tail _ (.tail _ (.head _))) ?_
    walk_at "ws"
    refine lsIm (by walk_at "mem") (cTold rws rws.length) (by rw [hy, cTold, List.length_map, List.length_range]) (fun p hp => .tail _ (.tail _ (.tail _ hp))) ?_
    exact endRet (fun q hq => .tail _ (.tail _ (.tail _ hq))) (.head _)
end

end
section
open PySem PySem.W PyProof.Rows PySem.Calls
/-! ## the heaps -/
theorem sd_len : ∀ (p : Nat) (xs : List Int) (x : Int), (sd xs x p).length = xs.length := by
  intro p
  induction p using Nat.strongRecOn with
  | _ p ih =>
    intro xs x
    by_cases l : 0 < p ∧ x < xs.getD ((p - 1) / 2) 0
    · rw [sd_lt l.1 l.2, ih _ (by omega), List.length_set]
    · by_cases h : 0 < p
      · rw [sd_ge fun q => l ⟨h, q⟩, List.length_set]
      · obtain rfl : p = 0 := by omega
        rw [sd_zero, List.length_set]
theorem su_len : ∀ (n : Nat) (xs : List Int) (p : Nat), xs.length - p ≤ n → (su xs p).1.length = xs.length := by
  intro n
  induction n with
  | zero => intro xs p h; rw [su_end (by omega)]
  | succ n ih =>
    intro xs p h
    by_cases h1 : 2 * p + 1 < xs.length
    · by_cases l : 2 * p + 2 < xs.length ∧ ¬ xs.getD (2 * p + 1) 0 < xs.getD (2 * p + 2) 0
      · rw [su_r l.1 l.2, ih _ _ (by rw [List.length_set]; omega), List.length_set]
      · rw [su_l h1 l, ih _ _ (by rw [List.length_set]; omega), List.length_set]
    · rw [su_end h1]
def hpush (ns : List Int) (x : Int) : List Int := sd (ns ++ [x]) x ns.length
def hppV (ns : List Int) (x : Int) : Int := if 0 < ns.length ∧ ns.getD 0 0 < x then ns.getD 0 0 else x
def hppL (ns : List Int) (x : Int) : List Int := if 0 < ns.length ∧ ns.getD 0 0 < x then sd ((su (ns.set 0 x) 0).1.set (su (ns.set 0 x) 0).2 x) x (su (ns.set 0 x) 0).2 else ns
theorem hpush_len (ns : List Int) (x : Int) : (hpush ns x).length = ns.length + 1 := by rw [hpush, sd_len, List.length_append]; rfl
theorem hppL_len (ns : List Int) (x : Int) : (hppL ns x).length = ns.length := by
  unfold hppL
  split
  · rw [sd_len, List.length_set, su_len _ _ _ (Nat.le_refl _), List.length_set]
  · rfl
structure HS where
  lo : List Int
  up : List Int
  paid : Int
def mx0 (x : Int) : Int := if x > 0 then x else 0
def hUp (s : HS) (a : Int) : List Int := hppL s.up a
def hLo (s : HS) (a : Int) : List Int := hpush s.lo (-hppV s.up a)
def hP1 (s : HS) (a : Int) : Int := if s.up.isEmpty then s.paid else s.paid + mx0 (a - s.up.getD 0 0)
def hStep (s : HS) (r : Int × Int) : HS :=
  ⟨hppL (hLo s r.1) (-r.2), hpush (hUp s r.1) (-hppV (hLo s r.1) (-r.2)), hP1 s r.1 + mx0 (-(hLo s r.1).getD 0 0 - r.2)⟩
def hAfter (rs : List (Int × Int)) (i : Nat) : HS := (rs.take i).foldl hStep ⟨[], [], 0⟩
def hRow (s : HS) : PyData :=
  .list [.int (-s.lo.getD 0 0), .int (s.up.getD 0 0), .int s.paid, k8 (fun k => decide (-s.lo.getD 0 0 ≤ k) && decide (k ≤ s.up.getD 0 0)), iDat (srt (s.lo.map fun x => -x) ++ srt s.up)]
def hTold (rs : List (Int × Int)) (n : Nat) : List PyData := (List.range n).map fun j => hRow (hAfter rs (j + 1))
theorem hTold_len (rs : List (Int × Int)) (n : Nat) : (hTold rs n).length = n := by rw [hTold, List.length_map, List.length_range]
theorem hTold_succ (rs : List (Int × Int)) (i : Nat) : hTold rs (i + 1) = hTold rs i ++ [hRow (hAfter rs (i + 1))] := by
  unfold hTold; rw [List.range_succ, List.map_append]; rfl
theorem hAfter_succ {rs : List (Int × Int)} {i : Nat} (h : i < rs.length) : hAfter rs (i + 1) = hStep (hAfter rs i) rs[i] := by
  unfold hAfter; rw [List.take_succ_eq_append_getElem h, List.foldl_append]; rfl
theorem hAfter_len (rs : List (Int × Int)) : ∀ i, i ≤ rs.length → (hAfter rs i).lo.length = i ∧ (hAfter rs i).up.length = i
  | 0, _ => ⟨rfl, rfl⟩
  | i + 1, h => by
    obtain ⟨h1, h2⟩ := hAfter_len rs i (by omega)
    rw [hAfter_succ (by omega)]
    exact ⟨by rw [hStep, hppL_len, hLo, hpush_len, h1], by rw [hStep, hpush_len, hUp, hppL_len, h2]⟩

/-! ## rules -/
section
variable {c : Cf} {A : Around} {e : Env} {S : Heap → Prop} {pos : Pos}
/-- for, with a tuple for a target -/
theorem W_ForT {target iter : Expr} {body : List Stmt} {Q : Flow → Heap → Prop} (n : Nat) (J : Addr → Nat → Heap → Prop) (init : Ent S (W c A (eval iter e) (fun xv => W c A (pyIter xv) (itQ fun I => J I 0))))
    (turn : ∀ I i, i < n → Ent (J I i) (W c A (pyNext (.ref I)) (someQ fun v => W c A (letOwnedTupleGo target (.ref I) v) (fun _ => W c A (assign target e v) (fun _ => W c A (execs body e) (loopQ Q (J I (i + 1))))))))
    (fin : ∀ I, Ent (J I n) (W c A (pyNext (.ref I)) (doneQ (Q .next)))) (hs : ∀ x, foldedSetIterable iter e x = pure x := by intros; kernel_rfl) :
    Ent S (W c A (exec (.For target iter body [] pos) e) Q) := by
  refine fun h s => ⟨fun tk g hg => wpAny_For ((init h s).up hg fun xv h₁ g₁ tk₁ hg₁ x => x.up hg₁ fun it h₂ g₂ tk₂ hg₂ y => ?_) hs⟩
  obtain ⟨I, rfl, j⟩ := y
  refine codeAny_forLoop_any (fun k s => ∃ i h tk g, k + i = n ∧ s = Sh c h g tk ∧ AllBare g ∧ J I i h) ?_ n ⟨0, h₂, tk₂, g₂, rfl, rfl, hg₂, j⟩
  rintro k s ⟨i, h, tk, g, hk, rfl, hg, j⟩
  by_cases hi : i < n
  · refine W.up (turn I i hi h j) hg fun r h' g' tk' hg' x => ?_
    cases r with
    | none => exact x.elim
    | some v =>
      refine W.up x hg' fun _ h₂ g₂ tk₂ hg₂ y => W.up y hg₂ fun _ h₃ g₃ tk₃ hg₃ z => z.up hg₃ fun f h₄ g₄ tk₄ hg₄ z => ?_
      cases f with
      | next => exact ⟨k - 1, by omega, i + 1, _, _, _, by omega, rfl, hg₄, z⟩
      | cont => exact ⟨k - 1, by omega, i + 1, _, _, _, by omega, rfl, hg₄, z⟩
      | brk => exact Post.mk' hg₄ z
      | ret v => exact Post.mk' hg₄ z
  · obtain rfl : i = n := by omega
    refine W.up (fin I h j) hg fun r h' g' tk' hg' x => ?_
    cases r with
    | none => exact wpAny_execs_nil (Post.mk' hg' x)
    | some v => exact x.elim
end
section
variable {c : Cf} {A : Around} {e : Env} {H₀ H : Heap} {X : List Addr} {L I l a : Addr} {m : List (Str × Option Value)} {led : List (Addr × OP)} {ims : List (Value × PyData)} {pos : Pos} {ns : List Int}
theorem W_owned {elts : List Expr} {k i : Nat} {v : Value} {ds : List PyData} {Q : Unit → Heap → Prop} (hv : (v, .tuple ds) ∈ ims) (q : Ent (St H₀ H X L m ((I, LI l i) :: led) ims) (Q ())) :
    Ent (St H₀ H X L m ((I, LI l i) :: led) ims) (W c A (letOwnedTupleGo (.Tuple elts k pos) (.ref I) v) Q) := fun h s => by
  obtain ⟨as, r⟩ := s.read hv
  cases r with
  | tuple h1 h2 h3 h4 => exact ⟨fun tk g hg => wpAny_letOwnedTupleGo_listiter (s := Sh c h g tk) (s.ld _ (.head _)) (Post.mk' hg (q h s))⟩
theorem W_aPairIm {t1 t2 : Expr} {k : Nat} {v : Value} {d1 d2 : PyData} {Q : Unit → Heap → Prop} (ok : A.handled = none) (hv : (v, .tuple [d1, d2]) ∈ ims)
    (K : ∀ x y, Ent (St H₀ H X L m led ((x, d1) :: (y, d2) :: ims)) (W c A (assign t1 e x) (fun _ => W c A (assign t2 e y) Q)))
    (he : assignEach [t1, t2] e = [(false, assign t1 e), (false, assign t2 e)] := by kernel_rfl) : Ent (St H₀ H X L m led ims) (W c A (assign (.Tuple [t1, t2] k pos) e v) Q) := fun h s => by
  obtain ⟨as, r⟩ := s.im _ hv
  cases r with
  | @tuple a o vs n ds bs h1 h2 h3 h4 =>
    obtain ⟨vs⟩ := vs
    cases h4 with
    | cons r1 rs => cases rs with
      | cons r2 rs => cases rs with
        | nil => exact W_aPair (x := _) (y := _) ok (K _ _) he h ⟨(s.addIm r2).addIm r1, _, of_hideAll _ h1, h2, n, h3⟩
theorem l_ne {b : Addr} {Q : Value → Heap → Prop} (hu : A.units + 64 < cLine) (r : SrcI led ims a ns) (hm : (.ref b, .list []) ∈ ims) (q : Ent (St H₀ H X L m led ims) (Q (.bool (!ns.isEmpty)))) : Ent (St H₀ H X L m led ims) (W c A (compareOp .NotEq (.ref a) (.ref b)) Q) := fun h s => by
  obtain ⟨vs, ⟨o, h1, h2, n, h3⟩, hi⟩ := r.at_ s
  obtain ⟨as, ra⟩ := readsAll_ints (h := h) hi
  obtain ⟨bs, rb⟩ := s.read hm
  have z : ∀ ns : List Int, (iDat ns).canLay0 = true := fun ns => by
    show PyData.canLayAll0 (ns.map .int) = true
    induction ns with
    | nil => rfl
    | cons x r ih => exact ih
  have e : PyData.eqv (iDat ns) (.list []) = ns.isEmpty := by cases ns <;> rfl
  refine ⟨fun tk g hg => PySem.SeqAt.compareNe_reads (s := Sh c h g tk) (.list h1 h2 h3 (by simpa using ra)) rb (z ns) rfl ?_ (Post.mk' hg (by rw [e]; exact q h s))⟩
  have : PyData.depth (.list []) ≤ 64 := by decide
  have := Nat.min_le_right (iDat ns).depth (PyData.depth (.list []))
  omega
end

section
variable {c : Cf} {A : Around} {H₀ H h : Heap} {X : List Addr} {L I l a : Addr} {m : List (Str × Option Value)} {led led' : List (Addr × OP)} {ims ims' : List (Value × PyData)} {ns : List Int} {P : OP}
theorem SrcI.mono (r : SrcI led ims a ns) (k : ∀ q ∈ led, q ∈ led') (i : ∀ q ∈ ims, q ∈ ims') : SrcI led' ims' a ns := r.imp (i _) fun ⟨P, h1, h2⟩ => ⟨P, k _ h1, h2⟩
theorem nexts_il (ok : A.handled = none) (ax : Addr) (ns : List Int) : Nexts c A (LI ax) (ns.map .int) (fun led ims => SrcI led ims ax ns) := by
  refine ⟨fun i d hd req q h s => ?_, fun req q h s => ?_, fun i req q h s => ?_⟩
  · obtain ⟨vs, hl, hi⟩ := (req.mono (fun _ q => .tail _ q) fun _ q => q).at_ s
    obtain ⟨n, hn, rfl⟩ : ∃ n, ns[i]? = some n ∧ PyData.int n = d := by simpa using hd
    obtain ⟨hlt, e⟩ := List.getElem?_eq_some_iff.mp hn
    obtain ⟨t, ht⟩ := ia_get (d := 0) hi hlt
    have e2 : ns.getD i 0 = n := by simp [List.getD_eq_getElem?_getD, hn]
    rw [e2] at ht
    refine ⟨fun tk g hg => wpAny_pyNext_list_item (s.ld _ (.head _)) hl (by simpa using ht) fun h' it' hs => Post.mk' hg (q _ h' ?_)⟩
    exact (s.addIm (.int n t)).upd .head (fun b o n e => hs.extBut b o (fun q => n (q ▸ .head _)) e) it'
  · obtain ⟨vs, hl, hi⟩ := (req.mono (fun _ q => .tail _ q) fun _ q => q).at_ s
    refine ⟨fun tk g hg => wpAny_pyNext_list_end ok (s.ld _ (.head _)) hl ?_ fun h' he => Post.mk' hg (q h' (s.drop fun b o n e => he b o n e))⟩
    rw [Array.getElem?_eq_none_iff, List.size_toArray, hi.length, List.length_map]; exact Nat.le_refl _
  · exact ⟨fun tk g hg => wpAny_pyIter_listiter (s.ld _ (.head _)) (Post.mk' hg (q h s))⟩
theorem e_iterI {J : Addr → Heap → Prop} (r : SrcI led ims a ns) (q : ∀ I, Ent (St H₀ H X L m ((I, LI a 0) :: led) ims) (J I)) : Ent (St H₀ H X L m led ims) (W c A (pyIter (.ref a)) (itQ J)) := fun h s => by
  obtain ⟨vs, ⟨o, h1, h2, n, h3⟩, hi⟩ := r.at_ s
  exact ⟨fun tk g hg => wpAny_pyIter_list ⟨o, h1, h2, n, h3⟩ (Post.mk' hg ⟨_, rfl, q _ _ (s.pushLed rfl ⟨rfl, rfl⟩)⟩)⟩
theorem St.led_nb (s : St H₀ H X L m led ims h) (hm : (a, P) ∈ led) : H₀.get? a = none := s.nb a (.tail _ (List.mem_map.mpr ⟨_, hm, rfl⟩))
def nextQ (T : Heap → Prop) : Flow → Heap → Prop := fun f h => f = .next ∧ T h
theorem nextQ_in {S T : Heap → Prop} (q : Ent S T) : Ent S (nextQ T .next) := fun h s => ⟨rfl, q h s⟩
theorem W_then {t : Sem Flow} {S : Heap → Prop} {Q : Flow → Heap → Prop} (T : Heap → Prop) (h1 : Ent S (W c A t (nextQ T))) (h2 : Ent T (Q .next)) : Ent S (W c A t Q) := fun h s =>
  (h1 h s).mono fun f h' ⟨e, z⟩ => by subst e; exact h2 h' z
end
end
section
open PySem PySem.W PyProof.Rows PySem.Calls
set_option maxHeartbeats 4000000
section
variable {c : Cf} {A : Around} {H₀ hh : Heap} {M : List Addr}
abbrev dRs (rs : List (Int × Int)) : PyData := .list (rs.map fun r => .tuple [.int r.1, .int r.2])
abbrev hLed (I l tl ua la uc lc : Addr) (k : Nat) (ys : List Value) (s : HS) (F : List (Addr × OP)) : List (Addr × OP) :=
  (I, LI l k) :: (tl, LsP ys) :: (ua, IL s.up) :: (la, IL s.lo) :: (uc, CellP (some (.ref ua))) :: (lc, CellP (some (.ref la))) :: F
def HJ (H₀ hh : Heap) (M : List Addr) (L l tl ua la uc lc : Addr) (rs : List (Int × Int)) (I : Addr) (i : Nat) : Heap → Prop := fun h => ∃ t, ∃ lv, ∃ gv, ∃ hv, ∃ ys, ys.length = i ∧
  St H₀ hh M L [("ranges", some (.ref l)), ("paid", some (.int (hAfter rs i).paid t)), ("told", some (.ref tl)), ("least", lv), ("greatest", gv), ("held", hv)] (hLed I l tl ua la uc lc i ys (hAfter rs i) (frzM hh M)) ((.ref l, dRs rs) :: ys.zip (hTold rs i)) h
theorem heaps_ok {v : Value} {rs : List (Int × Int)} (B : Bs c H₀) (ok : Ok A 4) (O : Old H₀ hh M) (hv : ∃ as, Reads (hideAll hh M) v (dRs rs) as) (hn : rs.length ≤ 9) :
    W c A (call (.ref (c.fa 20)) [v]) (RetQ hh M (.list (hTold rs rs.length))) hh := by
  refine W_defRC (ims := [(v, dRs rs)]) 20 "ranges" ["paid", "told", "least", "greatest", "held"] ["upper", "lower"] false B ok O (fun p q => by rw [List.mem_singleton.mp q]; exact hv) fun e L A' oc hoc ok' E => ?_
  match oc, hoc with
  | [(_, uc), (_, lc)], hoc =>
  simp only [List.map_cons, List.map_nil, List.cons.injEq, and_true] at hoc
  obtain ⟨rfl, rfl⟩ := hoc
  simp only [List.map_cons, List.map_nil, Bool.false_eq_true, if_false, Bool.false_and, List.cons_append, List.nil_append]
  refine im_ref (.head _) fun l e => ?_
  subst e
  refine W_cons ?_
  walk_at "ws"
  refine newLs (IL []) ⟨_, _, .nil, rfl⟩ (by simp) fun la => ?_
  walk_at "ws"
  refine newLs (IL []) ⟨_, _, .nil, rfl⟩ (by simp) fun ua => ?_
  walk_at "ws"
  refine newLs (LsP []) ⟨0, rfl⟩ (by simp) fun tl => ?_
  walk_at "ws"
  refine W_ForT rs.length (HJ H₀ hh M L l tl ua la uc lc rs) ?_ (fun I i hi => Ent.ex fun t => Ent.ex fun lv => Ent.ex fun gv => Ent.ex fun hv => Ent.ex fun ys => Ent.imp fun hy => ?_) fun I => Ent.ex fun t => Ent.ex fun lv => Ent.ex fun gv => Ent.ex fun hv => Ent.ex fun ys => Ent.imp fun hy => ?_
  · walk_at "ws"
    exact e_iter _ (.head _) fun I h s => ⟨_, none, none, none, [], rfl, s⟩
  · obtain ⟨hl1, hl2⟩ := hAfter_len rs i (Nat.le_of_lt hi)
    refine f_next (nexts_list ok'.hd l _) i (.tuple [.int rs[i].1, .int rs[i].2]) (by simp [hi]) (.head _) fun v => ?_
    refine W_owned (.head _) (W_aPairIm ok'.hd (.head _) fun x y => im_int (.head _) fun t1 e1 => im_int (.tail _ (.head _)) fun t2 e2 => ?_)
    subst e1 e2
    walk_at "ws"
    refine W_then (fun h => ∃ t, St H₀ hh M L [("ranges", some (.ref l)), ("paid", some (.int (hP1 (hAfter rs i) rs[i].1) t)), ("told", some (.ref tl)), ("least", some (.int rs[i].1 t1)), ("greatest", some (.int rs[i].2 t2)), ("held", hv)] (hLed I l tl ua la uc lc (i + 1) ys (hAfter rs i) (frzM hh M)) ((.ref l, dRs rs) :: ys.zip (hTold rs i)) h) ?_ (Ent.ex fun t => ?_)
    · refine W_If ?_
      walk_at "ws"
      refine newLsIm [] .nil (by simp) fun b => ?_
      walk_at "ws"
      refine l_ne (by have := ok'.un; omega) (.inr ⟨_, by walk_at "mem", fun _ q => q⟩) (.head _) ?_
      walk_at "ws"
      refine brOf (fun hE => ?_) (fun hE => ?_)
      · walk_at "ws"
        refine nextQ_in fun h s => ⟨t, ?_⟩
        rw [hP1, if_pos hE]
        exact s.forget (List.Sublist.refl _) fun p hp => .tail _ (.tail _ (.tail _ (.tail _ hp)))
      · have hu : 0 < (hAfter rs i).up.length := by cases q : (hAfter rs i).up with | nil => rw [q] at hE; cases hE | cons _ _ => exact Nat.succ_pos _
        walk_at "ws"
        refine W_callB "max" B E ?_
        walk_at "ws"
        refine i_sub 0 (by walk_at "mem") rfl hu (Nat.le_trans (Nat.le_of_eq hl2) (Nat.le_trans (Nat.le_of_lt hi) (Nat.le_trans hn (by decide)))) fun _ => ?_
        walk_at "ws"
        refine e_max ok'.hd fun _ => ?_
        walk_at "ws"
        rw [show hP1 (hAfter rs i) rs[i].1 = _ from if_neg (by rw [hE]; decide)]
        exact nextQ_in fun h s => ⟨_, s.forget (List.Sublist.refl _) fun p hp => .tail _ (.tail _ (.tail _ (.tail _ hp)))⟩
    · walk_at "ws"
      refine W_callF 12 B E ?_
      walk_at "ws"
      refine W_callF 13 B E ?_
      walk_at "ws"
      refine E_call1 (a := ua) (P' := IL (hUp (hAfter rs i) rs[i].1)) (fun v => ∃ t, v = .int (hppV (hAfter rs i).up rs[i].1) t) (by walk_at "mem") (fun h s => heappushpop_ok B ok' s.bs (s.is (by walk_at "mem")) (s.led_nb (by walk_at "mem")) (by omega)) ?_
      rintro v ⟨t3, rfl⟩
      walk_at "ws"
      refine E_call1 (a := la) (P' := IL (hLo (hAfter rs i) rs[i].1)) (· = .none) (by walk_at "mem") (fun h s => heappush_ok B (ok'.less (by decide)) s.bs (s.is (by walk_at "mem")) (s.led_nb (by walk_at "mem")) (by omega)) ?_
      rintro v rfl
      have hk1 : (hLo (hAfter rs i) rs[i].1).length = i + 1 := by rw [hLo, hpush_len, hl1]
      have hk2 : (hUp (hAfter rs i) rs[i].1).length = i := by rw [hUp, hppL_len, hl2]
      have hlt : i + 1 ≤ 1000 := Nat.le_trans hi (Nat.le_trans hn (by decide))
      walk_at "ws"
      refine W_callB "max" B E ?_
      walk_at "ws"
      refine i_sub 0 (by walk_at "mem") rfl (Nat.lt_of_lt_of_eq (Nat.succ_pos i) hk1.symm) (Nat.le_trans (Nat.le_of_eq hk1) hlt) fun _ => ?_
      walk_at "ws"
      refine e_max ok'.hd fun _ => ?_
      walk_at "ws"
      rw [show hP1 (hAfter rs i) rs[i].1 + (if -(hLo (hAfter rs i) rs[i].1).getD 0 0 - rs[i].2 > 0 then -(hLo (hAfter rs i) rs[i].1).getD 0 0 - rs[i].2 else 0) = (hAfter rs (i + 1)).paid from by rw [hAfter_succ hi]; rfl]
      refine W_callF 12 B E ?_
      walk_at "ws"
      refine W_callF 13 B E ?_
      walk_at "ws"
      refine E_call1 (a := la) (P' := IL (hAfter rs (i + 1)).lo) (fun v => ∃ t, v = .int (hppV (hLo (hAfter rs i) rs[i].1) (-rs[i].2)) t) (by walk_at "mem") (fun h s => by rw [hAfter_succ hi]; exact heappushpop_ok B ok' s.bs (s.is (by walk_at "mem")) (s.led_nb (by walk_at "mem")) (by omega)) ?_
      rintro v ⟨t4, rfl⟩
      walk_at "ws"
      refine E_call1 (a := ua) (P' := IL (hAfter rs (i + 1)).up) (· = .none) (by walk_at "mem") (fun h s => by rw [hAfter_succ hi]; exact heappush_ok B (ok'.less (by decide)) s.bs (s.is (by walk_at "mem")) (s.led_nb (by walk_at "mem")) (by omega)) ?_
      rintro v rfl
      obtain ⟨hl3, hl4⟩ := hAfter_len rs (i + 1) hi
      walk_at "ws"
      refine W_callB "sorted" B E ?_
      walk_at "ws"
      refine W_Comp (mO := fun u => [("x", u)]) (p := fun _ => true) (g := onInt fun x => -x) [] ok'.hd E (ccl := []) (by kernel_rfl) (nexts_il ok'.hd la (hAfter rs (i + 1)).lo) (Nat.le_trans (Nat.le_of_eq ((List.length_map _).trans hl3)) hlt)
        (by walk_at "ws"; exact e_iterI (.inr ⟨_, by walk_at "mem", fun _ q => q⟩) fun _ _ s => s) (fun _ _ _ hF _ => srcF hF (by walk_at "mem")) ?_ (fun D => ?_) (hm0 := fun z => lk_none [_] z)
      · intro h₂ I2 C cenv oc hoc Ec
        obtain rfl : oc = [] := List.map_eq_nil_iff.mp hoc
        replace Ec : Ev cenv C [] _ := Ec
        refine ⟨fun u v x r ims R q => W_aName (W_store Ec (by kernel_rfl) .head q), fun v d led ims R hd hF hC hv hI q => W_noTest q, fun v d led ims R hd hp hF hC hv hI q => ?_⟩
        obtain ⟨y, hy, rfl⟩ := List.mem_map.mp hd
        refine im_int hv fun t e => ?_
        subst e
        walk_at "ws"
        exact addInt (q _)
      rw [onInt_list]
      walk_at "ws"
      refine e_sorted (.inl (.head _)) (by rw [List.length_map]; omega) fun s1 => freeze ?_
      walk_at "ws"
      refine W_callB "sorted" B E ?_
      walk_at "ws"
      refine e_sorted (.inr ⟨_, by walk_at "mem", fun _ q => q⟩) (by omega) fun s2 => freeze ?_
      walk_at "ws"
      refine l_addS (.inl (.tail _ (.head _))) (.inl (.head _)) (by rw [srt_len, srt_len, List.length_map]; omega) fun s3 => freeze ?_
      walk_at "ws"
      refine W_ml slot_list_append type_list_append E (by walk_at "mem") (by walk_at "mem") (fun _ q => ⟨_, q⟩) ?_
      walk_at "ws"
      refine i_sub 0 (by walk_at "mem") rfl (Nat.lt_of_lt_of_eq (Nat.succ_pos i) hl3.symm) (Nat.le_trans (Nat.le_of_eq hl3) hlt) fun _ => ?_
      walk_at "ws"
      refine i_sub 0 (by walk_at "mem") rfl (Nat.lt_of_lt_of_eq (Nat.succ_pos i) hl4.symm) (Nat.le_trans (Nat.le_of_eq hl4) hlt) fun _ => ?_
      walk_at "ws"
      refine W_K8 (pk := fun k => decide (-(hAfter rs (i + 1)).lo.getD 0 0 ≤ k) && decide (k ≤ (hAfter rs (i + 1)).up.getD 0 0)) ok'.hd B E (ccl := [("upper", uc), ("lower", lc)]) (by kernel_rfl) ?_ fun D2 => ?_
      · intro h₂ I C cenv led' ims' R k t Ec hk hF hI q
        walk_at "ws"
        refine im_sub 0 (srcF hF (by walk_at "mem")) (.inl rfl) (Nat.lt_of_lt_of_eq (Nat.succ_pos i) hl3.symm) (Nat.le_trans (Nat.le_of_eq hl3) hlt) fun _ => ?_
        walk_at "ws"
        refine brDec (fun h1 => ?_) (fun h1 => ?_)
        · walk_at "ws"
          refine im_sub 0 (srcF hF (by walk_at "mem")) (.inl rfl) (Nat.lt_of_lt_of_eq (Nat.succ_pos i) hl4.symm) (Nat.le_trans (Nat.le_of_eq hl4) hlt) fun _ => ?_
          walk_at "ws"
          refine brDec (fun h2 => ?_) (fun h2 => ?_)
          · walk_at "ws"
            simpa only [decide_eq_true h1, decide_eq_true h2, Bool.and_true] using q
          · walk_at "ws"
            simpa only [decide_eq_true h1, decide_eq_false h2, Bool.and_false] using q
        · walk_at "ws"
          simpa only [decide_eq_false h1, Bool.false_and] using q
      walk_at "ws"
      refine newLsIm [.int _, .int _, .int (hAfter rs (i + 1)).paid, _, _] (.int (.int (.int (.im (.head _) (.im (.tail _ (.head _)) .nil))))) (by simp) fun nl => ?_
      walk_at "ws"
      refine l_append (by walk_at "mem") (Nat.le_trans (Nat.le_of_eq hy) (Nat.le_of_succ_le hlt)) ?_
      walk_at "ws"
      refine Ent.weak (List.Sublist.refl _) (ims' := (Value.ref l, dRs rs) :: (ys ++ [Value.ref nl]).zip (hTold rs (i + 1))) ?_ fun h s => ⟨_, _, _, _, ys ++ [Value.ref nl], by rw [List.length_append, hy]; rfl, s⟩
      rw [hTold_succ, zip_snoc (by rw [hy, hTold_len])]
      intro p hp
      rcases List.mem_cons.mp hp with rfl | hp
      · exact .tail _ (.tail _ (.tail _ (.tail _ (.tail _ (.tail _ (.head _))))))
      rcases List.mem_append.mp hp with hp | hp
      · exact .tail _ (.tail _ (.tail _ (.tail _ (.tail _ (.tail _ (.tail _ hp))))))
      · rw [List.mem_singleton.mp hp]; exact .head _
  · refine f_done (nexts_list ok'.hd l _) _ (by simp) (.head _) ?_
    walk_at "ws"
    refine lsIm (by walk_at "mem") (hTold rs rs.length) (by rw [hy, hTold_len]) (fun p hp => .tail _ hp) ?_
    exact endRet (fun q hq => .tail _ (.tail _ (.tail _ (.tail _ hq)))) (.head _)
end

end
section
open PySem PySem.W PyProof.Rows PySem.Calls
/-! ## heap order -/
theorem gs_eq {xs : List Int} {p : Nat} {v : Int} (h : p < xs.length) : (xs.set p v).getD p 0 = v := by simp [List.getD_eq_getElem?_getD, h]
theorem gs_ne {xs : List Int} {p i : Nat} {v : Int} (h : p ≠ i) : (xs.set p v).getD i 0 = xs.getD i 0 := by simp [List.getD_eq_getElem?_getD, List.getElem?_set_ne h]
theorem cnt_set (b v : Int) : ∀ (xs : List Int) (i : Nat), i < xs.length → (xs.set i v).count b + (if xs.getD i 0 = b then 1 else 0) = xs.count b + (if v = b then 1 else 0)
  | [], _, h => absurd h (Nat.not_lt_zero _)
  | x :: xs, 0, _ => by
    show (v :: xs).count b + (if x = b then 1 else 0) = _
    simp only [List.count_cons, beq_iff_eq]
    omega
  | x :: xs, i + 1, h => by
    have := cnt_set b v xs i (Nat.lt_of_succ_lt_succ h)
    show (x :: xs.set i v).count b + (if xs.getD i 0 = b then 1 else 0) = _
    simp only [List.count_cons, beq_iff_eq]
    omega
theorem swap_set {xs : List Int} {p q : Nat} {x : Int} (hp : p < xs.length) (hq : q < xs.length) (n : p ≠ q) : ((xs.set p (xs.getD q 0)).set q x).Perm (xs.set p x) := by
  refine List.perm_iff_count.mpr fun b => ?_
  have h1 := cnt_set b x (xs.set p (xs.getD q 0)) q (by rw [List.length_set]; exact hq)
  have h2 := cnt_set b (xs.getD q 0) xs p hp
  have h3 := cnt_set b x xs p hp
  rw [gs_ne n] at h1
  omega
theorem sd_perm : ∀ (p : Nat) (xs : List Int) (x : Int), p < xs.length → (sd xs x p).Perm (xs.set p x) := by
  intro p
  induction p using Nat.strongRecOn with
  | _ p ih =>
    intro xs x hp
    by_cases l : 0 < p ∧ x < xs.getD ((p - 1) / 2) 0
    · rw [sd_lt l.1 l.2]
      exact (ih _ (by omega) _ _ (by rw [List.length_set]; omega)).trans (swap_set hp (by omega) (by omega))
    · by_cases h : 0 < p
      · rw [sd_ge fun q => l ⟨h, q⟩]
      · obtain rfl : p = 0 := by omega
        rw [sd_zero]
def Heapy (xs : List Int) : Prop := ∀ i, 0 < i → i < xs.length → xs.getD ((i - 1) / 2) 0 ≤ xs.getD i 0
structure Hole (xs : List Int) (p : Nat) : Prop where
  o : ∀ i, 0 < i → i < xs.length → i ≠ p → (i - 1) / 2 ≠ p → xs.getD ((i - 1) / 2) 0 ≤ xs.getD i 0
  k : ∀ i, 0 < i → i < xs.length → (i - 1) / 2 = p → 0 < p → xs.getD ((p - 1) / 2) 0 ≤ xs.getD i 0
theorem sd_heap : ∀ (p : Nat) (xs : List Int) (x : Int), p < xs.length → Hole xs p → (∀ i, 0 < i → i < xs.length → (i - 1) / 2 = p → x ≤ xs.getD i 0) → Heapy (sd xs x p) := by
  have done : ∀ (p : Nat) (xs : List Int) (x : Int), p < xs.length → Hole xs p → (∀ i, 0 < i → i < xs.length → (i - 1) / 2 = p → x ≤ xs.getD i 0) → (0 < p → xs.getD ((p - 1) / 2) 0 ≤ x) → Heapy (xs.set p x) := by
    intro p xs x hp H hx hp2 i h1 h2
    rw [List.length_set] at h2
    by_cases e : p = i
    · subst e
      rw [gs_eq hp, gs_ne (by omega)]
      exact hp2 h1
    · rw [gs_ne e]
      by_cases e2 : (i - 1) / 2 = p
      · rw [e2, gs_eq hp]; exact hx i h1 h2 e2
      · rw [gs_ne (Ne.symm e2)]; exact H.o i h1 h2 (Ne.symm e) e2
  intro p
  induction p using Nat.strongRecOn with
  | _ p ih =>
    intro xs x hp H hx
    by_cases l : 0 < p ∧ x < xs.getD ((p - 1) / 2) 0
    · obtain ⟨h0, hl⟩ := l
      rw [sd_lt h0 hl]
      have hq : (p - 1) / 2 < xs.length := by omega
      have hne : p ≠ (p - 1) / 2 := by omega
      refine ih _ (by omega) _ _ (by rw [List.length_set]; exact hq) ⟨fun i h1 h2 h3 h4 => ?_, fun i h1 h2 h3 h4 => ?_⟩ fun i h1 h2 h3 => ?_
      · rw [List.length_set] at h2
        by_cases e : p = i
        · subst e; exact absurd rfl h4
        · rw [gs_ne e]
          by_cases e2 : (i - 1) / 2 = p
          · rw [e2, gs_eq hp]; exact H.k i h1 h2 e2 h0
          · rw [gs_ne (Ne.symm e2)]; exact H.o i h1 h2 (Ne.symm e) e2
      · rw [List.length_set] at h2
        have z := H.o ((p - 1) / 2) h4 hq (by omega) (by omega)
        rw [gs_ne (by omega)]
        by_cases e : p = i
        · subst e; rw [gs_eq hp]; exact z
        · rw [gs_ne e]
          refine Int.le_trans z ?_
          have := H.o i h1 h2 (Ne.symm e) (by omega)
          rw [h3] at this; exact this
      · rw [List.length_set] at h2
        by_cases e : p = i
        · subst e; rw [gs_eq hp]; exact Int.le_of_lt hl
        · rw [gs_ne e]
          have := H.o i h1 h2 (Ne.symm e) (by omega)
          rw [h3] at this
          exact Int.le_trans (Int.le_of_lt hl) this
    · by_cases h : 0 < p
      · have l' : ¬ x < xs.getD ((p - 1) / 2) 0 := fun q => l ⟨h, q⟩
        rw [sd_ge l']
        exact done p xs x hp H hx fun _ => Int.not_lt.mp l'
      · obtain rfl : p = 0 := by omega
        rw [sd_zero]
        exact done 0 xs x hp H hx fun q => absurd q h
theorem su_all : ∀ (n : Nat) (xs : List Int) (p : Nat) (x : Int), xs.length - p ≤ n → p < xs.length → Hole xs p →
    Hole (su xs p).1 (su xs p).2 ∧ (su xs p).2 < xs.length ∧ ¬ 2 * (su xs p).2 + 1 < xs.length ∧ ((su xs p).1.set (su xs p).2 x).Perm (xs.set p x) := by
  intro n
  induction n with
  | zero => intro xs p x h hp; omega
  | succ n ih =>
    intro xs p x h hp H
    have move : ∀ q, q < xs.length → (q - 1) / 2 = p → 0 < q → (∀ i, 0 < i → i < xs.length → (i - 1) / 2 = p → xs.getD q 0 ≤ xs.getD i 0) → Hole (xs.set p (xs.getD q 0)) q := by
      intro q hq hqp hq0 hmin
      have hne : p ≠ q := by omega
      refine ⟨fun i h1 h2 h3 h4 => ?_, fun i h1 h2 h3 h4 => ?_⟩
      · rw [List.length_set] at h2
        by_cases e : p = i
        · subst e
          rw [gs_eq hp, gs_ne (by omega)]
          exact H.k q hq0 hq hqp h1
        · rw [gs_ne e]
          by_cases e2 : (i - 1) / 2 = p
          · rw [e2, gs_eq hp]; exact hmin i h1 h2 e2
          · rw [gs_ne (Ne.symm e2)]; exact H.o i h1 h2 (Ne.symm e) e2
      · rw [List.length_set] at h2
        rw [hqp, gs_eq hp, gs_ne (by omega)]
        have := H.o i h1 h2 (by omega) (by omega)
        rw [h3] at this; exact this
    by_cases h1 : 2 * p + 1 < xs.length
    · by_cases l : 2 * p + 2 < xs.length ∧ ¬ xs.getD (2 * p + 1) 0 < xs.getD (2 * p + 2) 0
      · rw [su_r l.1 l.2]
        obtain ⟨a, b, c, d⟩ := ih (xs.set p (xs.getD (2 * p + 2) 0)) (2 * p + 2) x (by rw [List.length_set]; omega) (by rw [List.length_set]; exact l.1)
          (move _ l.1 (by omega) (by omega) fun i i1 i2 i3 => by
            obtain rfl | rfl : i = 2 * p + 1 ∨ i = 2 * p + 2 := by omega
            · exact Int.not_lt.mp l.2
            · exact Int.le_refl _)
        rw [List.length_set] at b c
        exact ⟨a, b, c, d.trans (swap_set hp l.1 (by omega))⟩
      · rw [su_l h1 l]
        obtain ⟨a, b, c, d⟩ := ih (xs.set p (xs.getD (2 * p + 1) 0)) (2 * p + 1) x (by rw [List.length_set]; omega) (by rw [List.length_set]; exact h1)
          (move _ h1 (by omega) (by omega) fun i i1 i2 i3 => by
            obtain rfl | rfl : i = 2 * p + 1 ∨ i = 2 * p + 2 := by omega
            · exact Int.le_refl _
            · have : ¬ ¬ xs.getD (2 * p + 1) 0 < xs.getD (2 * p + 2) 0 := fun q => l ⟨i2, q⟩
              omega)
        rw [List.length_set] at b c
        exact ⟨a, b, c, d.trans (swap_set hp h1 (by omega))⟩
    · rw [su_end h1]
      exact ⟨H, hp, h1, .refl _⟩
theorem heap_top {xs : List Int} (H : Heapy xs) : ∀ i, i < xs.length → xs.getD 0 0 ≤ xs.getD i 0 := by
  intro i
  induction i using Nat.strongRecOn with
  | _ i ih =>
    intro h
    by_cases h0 : 0 < i
    · exact Int.le_trans (ih _ (by omega) (by omega)) (H i h0 h)
    · obtain rfl : i = 0 := by omega
      exact Int.le_refl _
theorem heap_le {xs : List Int} (H : Heapy xs) {y : Int} (hy : y ∈ xs) : xs.getD 0 0 ≤ y := by
  obtain ⟨i, h, rfl⟩ := List.mem_iff_getElem.mp hy
  have := heap_top H i h
  rw [List.getD_eq_getElem?_getD (l := xs) (i := i), List.getElem?_eq_getElem h] at this
  exact this
theorem hpush_perm (ns : List Int) (x : Int) : (hpush ns x).Perm (x :: ns) := by
  refine (sd_perm _ _ _ (by rw [List.length_append]; exact Nat.lt_succ_self _)).trans ?_
  rw [List.set_append_right _ _ (Nat.le_refl _), Nat.sub_self]
  exact List.perm_append_comm
theorem hpush_heap {ns : List Int} (x : Int) (H : Heapy ns) : Heapy (hpush ns x) := by
  have e : ∀ i, i < ns.length → (ns ++ [x]).getD i 0 = ns.getD i 0 := fun i h => by simp [List.getD_eq_getElem?_getD, List.getElem?_append_left h]
  refine sd_heap _ _ _ (by rw [List.length_append]; exact Nat.lt_succ_self _) ⟨fun i h1 h2 h3 h4 => ?_, fun i h1 h2 h3 h4 => ?_⟩ fun i h1 h2 h3 => ?_
  all_goals rw [List.length_append, List.length_singleton] at h2
  · rw [e _ (by omega), e _ (by omega)]; exact H i h1 (by omega)
  · omega
  · omega
theorem hpp_both {n x : Int} {r : List Int} (H : Heapy (n :: r)) : (sd ((su ((n :: r).set 0 x) 0).1.set (su ((n :: r).set 0 x) 0).2 x) x (su ((n :: r).set 0 x) 0).2).Perm (x :: r) ∧ Heapy (sd ((su ((n :: r).set 0 x) 0).1.set (su ((n :: r).set 0 x) 0).2 x) x (su ((n :: r).set 0 x) 0).2) := by
  have hl : ((n :: r).set 0 x).length = (n :: r).length := List.length_set ..
  have H0 : Hole ((n :: r).set 0 x) 0 := ⟨fun i h1 h2 h3 h4 => by
    rw [gs_ne (by omega), gs_ne (by omega)]; exact H i h1 (by rw [← hl]; exact h2), fun i h1 h2 h3 h4 => absurd h4 (Nat.lt_irrefl _)⟩
  obtain ⟨a, b, c, d⟩ := su_all _ ((n :: r).set 0 x) 0 x (Nat.le_refl _) (by rw [hl]; exact Nat.succ_pos _) H0
  have e := su_len _ ((n :: r).set 0 x) 0 (Nat.le_refl _)
  generalize su ((n :: r).set 0 x) 0 = z at a b c d e
  rw [← e] at b c
  have hz : (z.1.set z.2 x).length = z.1.length := List.length_set ..
  refine ⟨(sd_perm _ _ _ (by rw [hz]; exact b)).trans ?_, sd_heap _ _ _ (by rw [hz]; exact b) ⟨fun i h1 h2 h3 h4 => ?_, fun i h1 h2 h3 h4 => ?_⟩ fun i h1 h2 h3 => ?_⟩
  · rw [List.set_set]; exact d
  · rw [hz] at h2
    rw [gs_ne (Ne.symm h4), gs_ne (Ne.symm h3)]; exact a.o i h1 h2 h3 h4
  · rw [hz] at h2; omega
  · rw [hz] at h2; omega
theorem hpp_perm {ns : List Int} (x : Int) (H : Heapy ns) : (hppV ns x :: hppL ns x).Perm (x :: ns) := by
  unfold hppV hppL
  split
  · rename_i h
    cases ns with
    | nil => exact absurd h.1 (Nat.lt_irrefl _)
    | cons n r => exact ((hpp_both H).1.cons n).trans (.swap _ _ _)
  · exact .refl _
theorem hppL_heap {ns : List Int} (x : Int) (H : Heapy ns) : Heapy (hppL ns x) := by
  unfold hppL
  split
  · rename_i h
    cases ns with
    | nil => exact absurd h.1 (Nat.lt_irrefl _)
    | cons n r => exact (hpp_both H).2
  · exact H
end
section
open PySem PySem.W PyProof.Rows PySem.Calls
/-! ## the two heaps against counting -/
def SS (f : Int → Int) (l : List Int) : Int := l.foldr (fun x s => f x + s) 0
theorem SS_perm {f : Int → Int} {l l' : List Int} (p : l.Perm l') : SS f l = SS f l' := by
  induction p with
  | nil => rfl
  | cons x _ ih => exact congrArg (f x + ·) ih
  | swap x y l => show f y + (f x + SS f l) = f x + (f y + SS f l); omega
  | trans _ _ h1 h2 => exact h1.trans h2
theorem SS_nn {f : Int → Int} (h : ∀ x, 0 ≤ f x) : ∀ l, 0 ≤ SS f l
  | [] => Int.le_refl _
  | x :: l => Int.add_nonneg (h x) (SS_nn h l)
theorem SS_ge {f : Int → Int} (h : ∀ x, 0 ≤ f x) {y : Int} : ∀ {l : List Int}, y ∈ l → f y ≤ SS f l
  | x :: l, hy => by
    have h1 := SS_nn h l
    have h2 := h x
    show f y ≤ f x + SS f l
    rcases List.mem_cons.mp hy with rfl | hy
    · omega
    · have := SS_ge h hy; omega
theorem SS_zero {f : Int → Int} : ∀ {l : List Int}, (∀ x ∈ l, f x = 0) → SS f l = 0
  | [], _ => rfl
  | x :: l, h => by
    show f x + SS f l = 0
    rw [h x (.head _), SS_zero fun y hy => h y (.tail _ hy)]; rfl
theorem mx0_nn (x : Int) : 0 ≤ mx0 x := by unfold mx0; split <;> omega
theorem mx0_np {x : Int} (h : x ≤ 0) : mx0 x = 0 := if_neg (by omega)
theorem mx0_pos {x : Int} (h : 0 < x) : 0 < mx0 x := by unfold mx0; rw [if_pos h]; exact h
theorem mx0_turn {t a k : Int} (h : t < a) : mx0 (a - k) + mx0 (k - t) = mx0 (a - t) + mx0 (t - k) + mx0 (k - a) := by unfold mx0; repeat' split <;> omega
abbrev fL (k : Int) : Int → Int := fun m => mx0 (-m - k)
abbrev fR (k : Int) : Int → Int := fun r => mx0 (k - r)
theorem fL_neg (k y : Int) : fL k (-y) = mx0 (y - k) := by show mx0 (- -y - k) = _; rw [Int.neg_neg]
theorem fR_at (k y : Int) : fR k y = mx0 (k - y) := rfl
structure Inv (s : HS) (w : Int → Int) (ends : List Int) : Prop where
  hl : Heapy s.lo
  hu : Heapy s.up
  pm : (s.lo.map (fun x => -x) ++ s.up).Perm ends
  sep : ∀ m ∈ s.lo, ∀ r ∈ s.up, -m ≤ r
  wy : ∀ k, w k = s.paid + SS (fL k) s.lo + SS (fR k) s.up
theorem mem_top {l : List Int} (h : 0 < l.length) : l.getD 0 0 ∈ l := by cases l with | nil => cases h | cons a r => exact .head _
theorem inv1 {s : HS} {w : Int → Int} {ends : List Int} {a : Int} (v : Inv s w ends) : Inv ⟨hLo s a, hUp s a, hP1 s a⟩ (fun k => w k + mx0 (a - k)) (a :: ends) := by
  have p1 := hpp_perm a v.hu
  have p2 := hpush_perm s.lo (-hppV s.up a)
  have eR := fun k => SS_perm (f := fR k) p1
  have eL := fun k => SS_perm (f := fL k) p2
  refine ⟨hpush_heap _ v.hl, hppL_heap _ v.hu, ?_, ?_, fun k => ?_⟩
  · refine List.perm_iff_count.mpr fun b => ?_
    have q1 := List.perm_iff_count.mp (p2.map fun x => -x) b
    have q2 := List.perm_iff_count.mp p1 b
    have q3 := List.perm_iff_count.mp v.pm b
    simp only [List.map_cons, List.count_cons, List.count_append, Int.neg_neg] at q1 q2 q3 ⊢
    show (List.map (fun x => -x) (hpush s.lo (-hppV s.up a))).count b + (hppL s.up a).count b = _
    omega
  · intro m hm r hr
    have hm := p2.mem_iff.mp hm
    have hr' : r ∈ a :: s.up := p1.mem_iff.mp (.tail _ hr)
    by_cases h : 0 < s.up.length ∧ s.up.getD 0 0 < a
    · rw [show hppV s.up a = s.up.getD 0 0 from if_pos h] at hm
      have hr0 : s.up.getD 0 0 ≤ r := (List.mem_cons.mp hr').elim (fun e => e ▸ Int.le_of_lt h.2) (heap_le v.hu)
      rcases List.mem_cons.mp hm with rfl | hm
      · rw [Int.neg_neg]; exact hr0
      · exact Int.le_trans (v.sep m hm _ (mem_top h.1)) hr0
    · rw [show hppV s.up a = a from if_neg h] at hm
      rw [show hUp s a = s.up from if_neg h] at hr
      rcases List.mem_cons.mp hm with rfl | hm
      · rw [Int.neg_neg]
        exact Int.le_trans (Int.not_lt.mp fun q => h ⟨List.length_pos_of_mem hr, q⟩) (heap_le v.hu hr)
      · exact v.sep m hm r hr
  · have e1 := eR k
    have e2 := eL k
    show w k + mx0 (a - k) = hP1 s a + SS (fL k) (hLo s a) + SS (fR k) (hUp s a)
    rw [v.wy k]
    simp only [SS, List.foldr_cons] at e1 e2
    simp only [SS]
    show _ = _ + List.foldr _ _ (hpush s.lo (-hppV s.up a)) + List.foldr _ _ (hppL s.up a)
    rw [e2]
    by_cases h : 0 < s.up.length ∧ s.up.getD 0 0 < a
    · rw [show hppV s.up a = s.up.getD 0 0 from if_pos h] at e1 ⊢
      have he : s.up.isEmpty = false := by cases q : s.up with | nil => rw [q] at h; exact absurd h.1 (Nat.lt_irrefl _) | cons _ _ => rfl
      rw [show hP1 s a = s.paid + mx0 (a - s.up.getD 0 0) from if_neg (by rw [he]; decide)]
      have z := mx0_turn (k := k) h.2
      rw [fL_neg]
      rw [fR_at, fR_at] at e1
      omega
    · rw [show hppV s.up a = a from if_neg h] at e1 ⊢
      have hp : hP1 s a = s.paid := by
        unfold hP1
        split
        · rfl
        · rename_i he
          have : 0 < s.up.length := by cases q : s.up with | nil => rw [q] at he; exact absurd rfl he | cons _ _ => exact Nat.succ_pos _
          rw [mx0_np (by have := mt (fun q => And.intro this q) h; omega), Int.add_zero]
      rw [hp, fL_neg]
      omega

/-- the second half of a turn -/
theorem inv2 {s : HS} {w : Int → Int} {ends : List Int} {b : Int} (v : Inv s w ends) (hn : 0 < s.lo.length) : Inv ⟨hppL s.lo (-b), hpush s.up (-hppV s.lo (-b)), s.paid + mx0 (-s.lo.getD 0 0 - b)⟩ (fun k => w k + mx0 (k - b)) (b :: ends) := by
  have p1 := hpp_perm (-b) v.hl
  have p2 := hpush_perm s.up (-hppV s.lo (-b))
  have eL := fun k => SS_perm (f := fL k) p1
  have eR := fun k => SS_perm (f := fR k) p2
  refine ⟨hppL_heap _ v.hl, hpush_heap _ v.hu, ?_, ?_, fun k => ?_⟩
  · refine List.perm_iff_count.mpr fun y => ?_
    have q1 := List.perm_iff_count.mp (p1.map fun x => -x) y
    have q2 := List.perm_iff_count.mp p2 y
    have q3 := List.perm_iff_count.mp v.pm y
    simp only [List.map_cons, List.count_cons, List.count_append, Int.neg_neg] at q1 q2 q3 ⊢
    omega
  · intro m hm r hr
    have hr := p2.mem_iff.mp hr
    have hm' : m ∈ -b :: s.lo := p1.mem_iff.mp (.tail _ hm)
    by_cases h : 0 < s.lo.length ∧ s.lo.getD 0 0 < -b
    · rw [show hppV s.lo (-b) = s.lo.getD 0 0 from if_pos h] at hr
      have hm0 : s.lo.getD 0 0 ≤ m := (List.mem_cons.mp hm').elim (fun e => e ▸ Int.le_of_lt h.2) (heap_le v.hl)
      rcases List.mem_cons.mp hr with rfl | hr
      · omega
      · have := v.sep _ (mem_top hn) r hr
        omega
    · rw [show hppV s.lo (-b) = -b from if_neg h] at hr
      have hm : m ∈ hppL s.lo (-b) := hm
      rw [show hppL s.lo (-b) = s.lo from if_neg h] at hm
      rcases List.mem_cons.mp hr with rfl | hr
      · have := heap_le v.hl hm
        have h' : ¬ s.lo.getD 0 0 < -b := fun q => h ⟨hn, q⟩
        omega
      · exact v.sep m hm r hr
  · have e1 := eL k
    have e2 := eR k
    show w k + mx0 (k - b) = s.paid + mx0 (-s.lo.getD 0 0 - b) + SS (fL k) (hppL s.lo (-b)) + SS (fR k) (hpush s.up (-hppV s.lo (-b)))
    rw [v.wy k]
    simp only [SS, List.foldr_cons] at e1 e2
    simp only [SS]
    rw [e2]
    by_cases h : 0 < s.lo.length ∧ s.lo.getD 0 0 < -b
    · rw [show hppV s.lo (-b) = s.lo.getD 0 0 from if_pos h] at e1 ⊢
      have z := mx0_turn (t := b) (a := -s.lo.getD 0 0) (k := k) (by have := h.2; omega)
      rw [fR_at]
      rw [fL_neg, show fL k (s.lo.getD 0 0) = mx0 (-s.lo.getD 0 0 - k) from rfl] at e1
      omega
    · rw [show hppV s.lo (-b) = -b from if_neg h] at e1 ⊢
      rw [mx0_np (x := -s.lo.getD 0 0 - b) (by have := mt (fun q => And.intro hn q) h; omega), Int.neg_neg, fR_at]
      omega
theorem inv_step {s : HS} {w : Int → Int} {ends : List Int} (r : Int × Int) (v : Inv s w ends) : Inv (hStep s r) (fun k => w k + mx0 (r.1 - k) + mx0 (k - r.2)) (r.2 :: r.1 :: ends) :=
  inv2 (inv1 v) (by show 0 < (hLo s r.1).length; rw [hLo, hpush_len]; exact Nat.succ_pos _)
theorem inv_nil : Inv ⟨[], [], 0⟩ (fun _ => 0) [] := ⟨fun _ _ h => absurd h (Nat.not_lt_zero _), fun _ _ h => absurd h (Nat.not_lt_zero _), .refl _, fun _ h => absurd h List.not_mem_nil, fun _ => rfl⟩
end
section
open PySem PySem.W PyProof.Rows PySem.Calls
theorem gd_mem {l : List Int} {i : Nat} (h : i < l.length) : l.getD i 0 ∈ l := by
  rw [List.getD_eq_getElem?_getD, List.getElem?_eq_getElem h]; exact List.getElem_mem h
theorem gd_le {l : List Int} (s : l.Pairwise (· ≤ ·)) {i j : Nat} (h : i ≤ j) (hj : j < l.length) : l.getD i 0 ≤ l.getD j 0 := by
  rw [List.getD_eq_getElem?_getD, List.getD_eq_getElem?_getD, List.getElem?_eq_getElem hj, List.getElem?_eq_getElem (Nat.lt_of_le_of_lt h hj)]
  rcases Nat.lt_or_eq_of_le h with h | rfl
  · exact List.pairwise_iff_getElem.mp s i j _ hj h
  · exact Int.le_refl _
theorem srt_last {l : List Int} {M : Int} (h1 : M ∈ l) (h2 : ∀ y ∈ l, y ≤ M) : (srt l).getD (l.length - 1) 0 = M := by
  have hp := List.length_pos_of_mem h1
  refine Int.le_antisymm (h2 _ ((srt_perm l).mem_iff.mp (gd_mem (by rw [srt_len]; omega)))) ?_
  obtain ⟨i, hi, e⟩ := mem_getD ((srt_perm l).mem_iff.mpr h1)
  rw [← e]
  exact gd_le (srt_sorted l) (by rw [srt_len] at hi; omega) (by rw [srt_len]; omega)
theorem srt_first {l : List Int} {M : Int} (h1 : M ∈ l) (h2 : ∀ y ∈ l, M ≤ y) : (srt l).getD 0 0 = M := by
  have hp := List.length_pos_of_mem h1
  refine Int.le_antisymm ?_ (h2 _ ((srt_perm l).mem_iff.mp (gd_mem (by rw [srt_len]; omega))))
  obtain ⟨i, hi, e⟩ := mem_getD ((srt_perm l).mem_iff.mpr h1)
  rw [← e]
  exact gd_le (srt_sorted l) (Nat.zero_le _) hi
theorem gd_left {l r : List Int} {i : Nat} (h : i < l.length) : (l ++ r).getD i 0 = l.getD i 0 := by simp [List.getD_eq_getElem?_getD, List.getElem?_append_left h]
theorem gd_right {l r : List Int} (i : Nat) : (l ++ r).getD (l.length + i) 0 = r.getD i 0 := by simp [List.getD_eq_getElem?_getD, List.getElem?_append_right]
section
variable {s : HS} {w : Int → Int} {ends ends' ways : List Int}
theorem row_eq (v : Inv s w ends) (pe : ends.Perm ends') (n : Nat) (hn : 0 < n) (h1 : s.lo.length = n) (h2 : s.up.length = n) (hr : ∀ y ∈ ends', 0 ≤ y ∧ y ≤ 7) (hw : ways.length = 8) (hy : ∀ k : Nat, k < 8 → ways.getD k 0 = w k) :
    hRow s = cRow ways ends' := by
  have pm := v.pm.trans pe
  have hlo : 0 < s.lo.length := by omega
  have hup : 0 < s.up.length := by omega
  have topL := mem_top hlo
  have topU := mem_top hup
  have hnl : (s.lo.map fun x => -x).length = n := by rw [List.length_map, h1]
  have hel : ends'.length = n + n := by rw [← pm.length_eq, List.length_append, hnl, h2]
  have maxL : ∀ y ∈ s.lo.map (fun x => -x), y ≤ -s.lo.getD 0 0 := fun y hy => by
    obtain ⟨m, hm, rfl⟩ := List.mem_map.mp hy
    have := heap_le v.hl hm; omega
  have memL : -s.lo.getD 0 0 ∈ s.lo.map fun x => -x := List.mem_map.mpr ⟨_, topL, rfl⟩
  have sep : -s.lo.getD 0 0 ≤ s.up.getD 0 0 := v.sep _ topL _ topU
  have e5 : srt (s.lo.map fun x => -x) ++ srt s.up = srt ends' := by
    refine srt_eq (((srt_perm _).append (srt_perm _)).trans pm) (List.pairwise_append.mpr ⟨srt_sorted _, srt_sorted _, fun x hx y hy => ?_⟩)
    have hx := maxL _ ((srt_perm _).mem_iff.mp hx)
    have hy := heap_le v.hu ((srt_perm _).mem_iff.mp hy)
    omega
  have e1 : (srt ends').getD ((ends'.length - 1) / 2) 0 = -s.lo.getD 0 0 := by
    rw [← e5, gd_left (by rw [srt_len, hnl]; omega), ← srt_last memL maxL, hnl, hel]
    congr 1; omega
  have e2 : (srt ends').getD (ends'.length / 2) 0 = s.up.getD 0 0 := by
    have := gd_right (l := srt (s.lo.map fun x => -x)) (r := srt s.up) 0
    rw [srt_len, hnl, e5, srt_first topU fun y hy => heap_le v.hu hy] at this
    rw [← this, hel]; congr 1; omega
  have nn : ∀ k, 0 ≤ SS (fL k) s.lo ∧ 0 ≤ SS (fR k) s.up := fun k => ⟨SS_nn (fun x => mx0_nn _) _, SS_nn (fun x => mx0_nn _) _⟩
  have at_ : ∀ k, -s.lo.getD 0 0 ≤ k → k ≤ s.up.getD 0 0 → w k = s.paid := fun k q1 q2 => by
    rw [v.wy k, SS_zero (f := fL k) fun m hm => mx0_np (by have := heap_le v.hl hm; omega), SS_zero (f := fR k) fun r hr => mx0_np (by have := heap_le v.hu hr; omega)]
    omega
  have lt1 : ∀ k, k < -s.lo.getD 0 0 → s.paid < w k := fun k q => by
    have z := SS_ge (f := fL k) (fun x => mx0_nn _) topL
    have p : 0 < fL k (s.lo.getD 0 0) := mx0_pos (by omega)
    have := nn k
    rw [v.wy k]; omega
  have lt2 : ∀ k, s.up.getD 0 0 < k → s.paid < w k := fun k q => by
    have z := SS_ge (f := fR k) (fun x => mx0_nn _) topU
    have p : 0 < fR k (s.up.getD 0 0) := mx0_pos (by omega)
    have := nn k
    rw [v.wy k]; omega
  have e3 : s.paid = minL ways := by
    obtain ⟨r1, r2⟩ := hr _ (pm.mem_iff.mp (List.mem_append_left _ memL))
    obtain ⟨k, hk⟩ := Int.eq_ofNat_of_zero_le r1
    refine minL_eq ?_ fun y hyw => ?_
    · have z := hy k (by omega)
      rw [← hk, at_ _ (Int.le_refl _) sep] at z
      rw [← z]; exact gd_mem (by omega)
    · obtain ⟨j, hj, rfl⟩ := mem_getD hyw
      rw [hy j (by omega), v.wy]
      have := nn (j : Int); omega
  unfold hRow cRow
  rw [e1, e2, e5, ← e3]
  congr 5
  show PyData.list (((List.range 8).filter _).map _) = .list (((List.range 8).filter _).map _)
  congr 2
  refine List.filter_congr fun k hk => ?_
  have hk := List.mem_range.mp hk
  rw [hy k hk]
  by_cases q1 : -s.lo.getD 0 0 ≤ (k : Int)
  · by_cases q2 : (k : Int) ≤ s.up.getD 0 0
    · rw [decide_eq_true q1, decide_eq_true q2, at_ _ q1 q2]; simp
    · have := lt2 k (by omega)
      rw [decide_eq_false q2, Bool.and_false]
      exact (beq_eq_false_iff_ne.mpr (by omega)).symm
  · have := lt1 k (by omega)
    rw [decide_eq_false q1, Bool.false_and]
    exact (beq_eq_false_iff_ne.mpr (by omega)).symm
end
end
section
open PySem PySem.W PyProof.Rows PySem.Calls
/-- the letters from a to b -/
def rgI (a b : Nat) : List Int := ((List.range 8).filter fun k => decide (a ≤ k) && decide (k ≤ b)).map fun (k : Nat) => (k : Int)
theorem rg_all : ∀ b : Fin 8, ∀ a : Fin 8, a ≤ b → (rgI a b).getD 0 0 = (a : Nat) ∧ (rgI a b).getD ((rgI a b).length - 1) 0 = (b : Nat) ∧ 0 < (rgI a b).length ∧ (rgI a b).length ≤ 8 ∧
    ∀ k : Fin 8, minL ((rgI a b).map fun x => absI ((k : Nat) - x)) = mx0 ((a : Nat) - (k : Nat)) + mx0 ((k : Nat) - (b : Nat)) := by decide +kernel
theorem rg_at {a b : Nat} (h : a ≤ b) (hb : b < 8) : (rgI a b).getD 0 0 = a ∧ (rgI a b).getD ((rgI a b).length - 1) 0 = b ∧ 0 < (rgI a b).length ∧ (rgI a b).length ≤ 8 ∧
    ∀ k : Nat, k < 8 → minL ((rgI a b).map fun x => absI ((k : Int) - x)) = mx0 ((a : Int) - k) + mx0 ((k : Int) - b) := by
  obtain ⟨h1, h2, h3, h4, h5⟩ := rg_all ⟨b, hb⟩ ⟨a, Nat.lt_of_le_of_lt h hb⟩ h
  exact ⟨h1, h2, h3, h4, fun k hk => h5 ⟨k, hk⟩⟩
abbrev rgRows (ps : List (Nat × Nat)) : List (List Int) := ps.map fun p => rgI p.1 p.2
abbrev rgEnds (ps : List (Nat × Nat)) : List (Int × Int) := ps.map fun p => ((p.1 : Int), (p.2 : Int))
theorem step_ways {ways : List Int} {r : List Int} {k : Nat} (hk : k < 8) : (cStep ways r).getD k 0 = ways.getD k 0 + minL (r.map fun x => absI ((k : Int) - x)) := by
  unfold cStep
  simp [List.getD_eq_getElem?_getD, hk]
theorem inv_at {ps : List (Nat × Nat)} (hp : ∀ p ∈ ps, p.1 ≤ p.2 ∧ p.2 < 8) : ∀ i, i ≤ ps.length → ∃ w ends, Inv (hAfter (rgEnds ps) i) w ends ∧ ends.Perm (cEnd (rgRows ps) i) ∧ (∀ k : Nat, k < 8 → (cWays (rgRows ps) i).getD k 0 = w k) ∧ ∀ y ∈ cEnd (rgRows ps) i, 0 ≤ y ∧ y ≤ 7
  | 0, _ => ⟨_, _, inv_nil, .refl _, fun k hk => by
      have z : ∀ k : Fin 8, (List.replicate 8 (0 : Int)).getD k 0 = 0 := by decide
      exact z ⟨k, hk⟩, fun y hy => absurd hy List.not_mem_nil⟩
  | i + 1, h => by
    obtain ⟨w, ends, v, pe, hw, hr⟩ := inv_at hp i (by omega)
    have h1 : i < (rgEnds ps).length := by rw [List.length_map]; omega
    have h2 : i < (rgRows ps).length := by rw [List.length_map]; omega
    have hi : i < ps.length := by omega
    obtain ⟨q1, q2⟩ := hp _ (List.getElem_mem hi)
    obtain ⟨g1, g2, g3, g4, g5⟩ := rg_at q1 q2
    have e1 : (rgEnds ps)[i] = ((ps[i].1 : Int), (ps[i].2 : Int)) := List.getElem_map _
    have e2 : (rgRows ps)[i] = rgI ps[i].1 ps[i].2 := List.getElem_map _
    rw [hAfter_succ h1, cEnd_succ h2, cWays_succ h2, e1, e2]
    refine ⟨_, _, inv_step _ v, ?_, fun k hk => ?_, fun y hy => ?_⟩
    · unfold cEnds
      rw [g1, g2]
      refine List.perm_iff_count.mpr fun b => ?_
      have := List.perm_iff_count.mp pe b
      simp only [List.count_cons, List.count_append, List.count_nil] at this ⊢
      omega
    · rw [step_ways hk, g5 k hk, hw k hk]; exact (Int.add_assoc ..).symm
    · rcases List.mem_append.mp hy with hy | hy
      · exact hr y hy
      · rw [g1, g2] at hy
        simp only [List.mem_cons, List.not_mem_nil, or_false] at hy
        omega
theorem told_eq {ps : List (Nat × Nat)} (hp : ∀ p ∈ ps, p.1 ≤ p.2 ∧ p.2 < 8) : hTold (rgEnds ps) ps.length = cTold (rgRows ps) ps.length := by
  unfold hTold cTold
  refine List.map_congr_left fun j hj => ?_
  have hj : j + 1 ≤ ps.length := List.mem_range.mp hj
  obtain ⟨w, ends, v, pe, hw, hr⟩ := inv_at hp (j + 1) hj
  obtain ⟨h1, h2⟩ := hAfter_len (rgEnds ps) (j + 1) (by rw [List.length_map]; exact hj)
  exact row_eq v pe (j + 1) (Nat.succ_pos j) h1 h2 hr (cWays_len _ _ (by rw [List.length_map]; exact hj)) hw
end
section
open PySem PySem.W PyProof.Rows PySem.Calls
section
variable {prog : Program} {w : World} {A : Around} {E : Value → Shared → Prop} {s : Shared} {d : Addr} {f : Int → Option Value}
theorem lookup_miss {c : Nat} {Q : Builtin.Str.Mapped → Shared → Prop} (hd : (d == sysModules) = false) (hh : A.handled = none) (hm : s.heap.MapOf (intKind prog w) d f) (hv : f c = none)
    (q : ∀ h' tk, (∀ b o, s.heap.get? b = some o → h'.get? b = some o) → Q .keep { s with heap := h', toks := tk }) : wpAny (model prog w) A (Builtin.Str.tableLookup (.ref d) c) Q E s := by
  unfold Builtin.Str.tableLookup
  refine wpAny_bind (wpAny_attempt (wpAny_bind (wpAny_mkInt ?_)))
  refine wpAny_getItem_missing_of (K := Int) (intKind_is prog w (c : Int) _) hd hh hm hv fun h' e he => ?_
  show wpAny (model prog w) A (do
      let r ← isInstance (.ref e) (Value.type "LookupError")
      if r = true then do
          rule "str.translate.not-in-table"
          pure Builtin.Str.Mapped.keep
        else throw (.ref e)) Q E _
  obtain ⟨ob, t, e1, e2, _⟩ := he.there
  refine wpAny_bind (wpAny_isInstance (T := "KeyError") (b := true) ⟨ob, e1, e2⟩ (by kernel_rfl) ?_)
  exact wpAny_bind (wpAny_rule (wpAny_pure (q _ _ he.keeps)))
theorem translate1 {c : Nat} {t : Tok} {Q : Value → Shared → Prop} (hc : c < 128) (hd : (d == sysModules) = false) (hh : A.handled = none) (hm : s.heap.MapOf (intKind prog w) d f) (hv : f c = none)
    (q : ∀ h' tk u, (∀ b o, s.heap.get? b = some o → h'.get? b = some o) → Q (.str ⟨#[c]⟩ u) { s with heap := h', toks := tk }) :
    wpAny (model prog w) A (call (.builtin "str.translate") [.str ⟨#[c]⟩ t, .ref d]) Q E s := by
  refine wpAny_call_entry F.slot_str_translate (typeIs_str _ _ t) F.entry_str_translate ?_ (F.args_str_translate_2 _ _)
  have e0 : Builtin.Str.strOneArg "translate" ⟨[.str ⟨#[c]⟩ t, .ref d], []⟩ = pure (.str ⟨#[c]⟩ t, ⟨#[c]⟩, .ref d) := by rfl
  unfold Builtin.«str.translate»
  rw [e0]
  refine wpAny_bind (wpAny_pure ?_)
  simp only [show ((⟨#[c]⟩ : Str).length == 0) = false from rfl, Bool.false_eq_true, if_false]
  rw [show (#[c].all fun x => decide (x < 128)) = true from by simp [hc]]
  rw [← Array.forIn_toList, List.forIn_cons]
  simp only [show Builtin.Str.tooLong 0 = false from by decide, Bool.false_eq_true, if_false, if_true, List.lookup]
  refine wpAny_bind (wpAny_bind (wpAny_bind (lookup_miss hd hh hm hv fun h' tk hk => ?_)))
  refine wpAny_bind (wpAny_pure (wpAny_pure (wpAny_pure ?_)))
  show wpAny (model prog w) A.in1 (do ret (← mkStr ⟨#[c]⟩)) _ E _
  exact wpAny_bind (wpAny_mkStr (wpAny_pure ⟨_, rfl, q h' _ _ hk⟩) (by show 1 ≤ sizeLine; decide))
end
section
variable {c : Cf} {A : Around} {S : Heap → Prop} {x : Str} {t : Tok} {Q : Value → Heap → Prop}
theorem e_isStr (q : Ent S (Q (.bool true))) : Ent S (W c A (call (.builtin "isinstance") [.str x t, .type "str"]) Q) := fun h s =>
  ⟨fun tk g hg => PyProof.Rows.call_isinstance_yes (typeIs_str _ _ t) (by kernel_rfl) (by kernel_rfl) (Post.mk' hg (q h s))⟩
end
end
section
open PySem PySem.W PyProof.Rows PySem.Calls
set_option maxHeartbeats 4000000
section
variable {c : Cf} {A : Around} {H₀ H hh : Heap} {X M : List Addr} {L : Addr} {m : List (Str × Option Value)} {led : List (Addr × OP)} {ims : List (Value × PyData)} {Q : Value → Heap → Prop}
theorem e_translate {ch : Nat} {t : Tok} (B : Bs c H₀) (ok : A.handled = none) (h1 : 97 ≤ ch) (h2 : ch < 105) (q : ∀ t, Ent (St H₀ H X L m led ims) (Q (.str ⟨#[ch]⟩ t))) :
    Ent (St H₀ H X L m led ims) (W c A (call (.builtin "str.translate") [.str ⟨#[ch]⟩ t, .ref c.scm]) Q) := fun h s => by
  obtain ⟨f, m1, m2, m3⟩ := B.sc
  refine ⟨fun tk g hg => translate1 (f := f) (by omega) m3 ok ?_ (m2 ch h1 h2) fun h' tk' u hk => Post.mk' hg (q u h' (s.grow hk))⟩
  obtain ⟨o, es, ep, a, r⟩ := m1 PySem.Challenge.rw_rx0039_01.row.prog c.w
  exact ⟨o, es, ep, s.bs _ _ a, r⟩
theorem escape_ok {ch : Nat} {t0 : Tok} (B : Bs c H₀) (ok : Ok A 1) (hb : le H₀ hh) (h1 : 97 ≤ ch) (h2 : ch < 105) : W c A (call (.ref (c.fa 8)) [.str ⟨#[ch]⟩ t0]) (PureQ hh fun v => ∃ t, v = .str ⟨#[ch]⟩ t) hh := by
  refine W_def0 (ims := []) 8 ["pattern"] [] B ok hb (fun _ q => absurd q List.not_mem_nil) fun e L A' ok' E hcd => ?_
  simp only [mk, bnd, List.zip_cons_cons, List.zip_nil_right, List.map_cons, List.map_nil, List.cons_append, List.nil_append]
  refine W_cons (W_If ?_)
  walk_at "ws"
  refine W_callB "isinstance" B E ?_
  walk_at "ws"
  refine W_boot (v := .type "str") B E (by kernel_rfl) (by decide +kernel) (by kernel_rfl) ?_
  walk_at "ws"
  refine e_isStr ?_
  walk_at "ws"
  refine W_ms F.slot_str_translate F.type_str_translate ?_
  walk_at "ws"
  refine isStr ?_
  walk_at "ws"
  refine W_global (v := .ref c.scm) B E (by kernel_rfl) (fun _ _ _ N => N.sm) ?_
  walk_at "ws"
  refine e_translate B ok'.hd h1 h2 fun _ => ?_
  exact endPure ⟨_, rfl⟩
end

end
section
open PySem PySem.W PyProof.Rows PySem.Calls Builtin Builtin.ObjectAttr
abbrev bapp (a : Addr) : Obj := { cls := .type "builtin_function_or_method", data := .fields #[.builtin "list.append", .ref a] }
theorem slot_mget : Slot "method_descriptor" "__get__" "method_descriptor.__get__" :=
  .of (owner := "method_descriptor") (n := "__get__") (by rw [typeLookup_type, builtinLookup_eq_fast]; kernel_rfl) (by decide +kernel) (by decide +kernel) (by decide +kernel)
    (by first | exact .inl (by decide +kernel) | exact .inr (by decide +kernel)) (by rw [isSubtype_type]; kernel_rfl)
theorem entry_mget : entryFor table "method_descriptor.__get__" = some Builtin.«method_descriptor.__get__» := entryFor_of_tree (by kernel_rfl)
theorem args_mget (a b c : Value) : argsOk "method_descriptor.__get__" ⟨[a, b, c], []⟩ := by unfold argsOk; kernel_rfl
theorem type_append : typeOf (.builtin "list.append") = pure (.type "method_descriptor") := by show builtinType _ = _; rw [builtinType_eq_fast]; kernel_rfl
theorem no_set : typeLookup (.type "method_descriptor") "__set__" = pure none := by rw [typeLookup_type, builtinLookup_eq_fast]; kernel_rfl
theorem no_del : typeLookup (.type "method_descriptor") "__delete__" = pure none := by rw [typeLookup_type, builtinLookup_eq_fast]; kernel_rfl
theorem tree_mget {prog : Program} {w : World} {A : Around} {E : Value → Shared → Prop} {s : Shared} {a : Addr} {o : Obj} {Q : Fin → Shared → Prop} (ho : s.heap.get? a = some o) (hc : o.cls = .type "list")
    (q : Q (.done (.ret (.ref s.heap.objs.size))) { s with heap := s.heap.push (bapp a) }) : wpAny (model prog w) A (Builtin.«method_descriptor.__get__» ⟨[.builtin "list.append", .ref a, .type "list"], []⟩) Q E s := by
  have hT : s.TypeIs (.ref a) "list" := ⟨o, ho, hc⟩
  have f6 : isSubtype (.type "list") (.type "list") = pure true := by rw [isSubtype_type]; kernel_rfl
  unfold Builtin.«method_descriptor.__get__»
  refine wpAny_bind (wpAny_of_eq (a := (.builtin "list.append", some (.ref a), some (.type "list"))) (by first | rfl | kernel_rfl) ?_)
  have e : Manifest.toldItsClass.contains "list.append" = false := by decide +kernel
  simp only [e, Bool.false_eq_true, if_false]
  refine wpAny_bind ?_
  wp_delta
  refine wpAny_bind (wpAny_of_eq (a := (("append" : Str), Value.type "list")) (by first | rfl | kernel_rfl) ?_)
  dsimp only
  refine wpAny_bind (wpAny_isInstance (T := "list") (b := true) hT f6 ?_)
  refine wpAny_ite_false rfl ?_
  refine wpAny_pure ?_
  exact wpAny_bind (wpAny_newObj_type (wpAny_pure q))
theorem tree_append {prog : Program} {w : World} {A : Around} {E : Value → Shared → Prop} {s : Shared} {a : Addr} {xs : Array Value} {k : Nat} {u : Tok} {sl : Array (Option Value)} {Q : Fin → Shared → Prop} (hx : s.heap.get? a = some { cls := .type "list", dict := none, data := .seq xs k, slots := sl })
    (q : Q (.done (.ret (.ref s.heap.objs.size))) { s with heap := s.heap.push (bapp a) }) : wpAny (model prog w) A (Builtin.«object.__getattribute__» ⟨[.ref a, .str "append" u], []⟩) Q E s := by
  have f1 := slot_list_append.lookup
  have f2 := type_append
  have f3 := slot_mget.lookup
  have f4 := no_set
  have f5 := no_del
  obtain ⟨hp, g, d, tk, os⟩ := s
  have hT : (⟨hp, g, d, tk, os⟩ : Shared).TypeIs (.ref a) "list" := ⟨_, hx, rfl⟩
  unfold Builtin.«object.__getattribute__»
  repeat (any_goals (first | assumption | ((with_reducible show wpAny _ _ (call (Value.builtin "method_descriptor.__get__") _ _) _ _ _); refine wpAny_call_entry slot_mget type_append entry_mget (tree_mget hx rfl ⟨_, rfl, ?_⟩) (args_mget _ _ _)) | wp_step))

section
variable {c : Cf} {A : Around} {e : Env} {prog : Program} {w : World} {E : Value → Shared → Prop} {s : Shared}
theorem list_ga : entryFor table "list.__getattribute__" = some Builtin.«object.__getattribute__» := am_entry_list_getattribute
theorem getAttr_append {a : Addr} {xs : Array Value} {k : Nat} {sl : Array (Option Value)} {Q : Value → Shared → Prop} (hx : s.heap.get? a = some { cls := .type "list", dict := none, data := .seq xs k, slots := sl })
    (q : ∀ tk, Q (.ref s.heap.objs.size) { s with heap := s.heap.push (bapp a), toks := tk }) : wpAny (model prog w) A (getAttr (.ref a) "append" true) Q E s := by
  obtain ⟨hp, g, d, tk, os⟩ := s
  have hT : ∀ tk', (⟨hp, g, d, tk', os⟩ : Shared).TypeIs (.ref a) "list" := fun _ => ⟨_, hx, rfl⟩
  have f3 := F.slot_list_getattribute.lookup
  have f4 := F.slot_list_getattribute.bind (.ref a)
  have f5 := am_list_getattr_none
  unfold getAttr getAttrBy
  repeat (any_goals (first | assumption | exact hT _ | ((with_reducible show wpAny _ _ (call (Value.builtin "list.__getattribute__") _ _) _ _ _); refine wpAny_call_entry F.slot_list_getattribute (hT _) am_entry_list_getattribute (tree_append hx ⟨_, rfl, ?_⟩) (F.args_list_getattribute_2 _ _)) | wp_step))
  exact q _
theorem check_sig {a : Addr} {x : Value} : (match Manifest.signature? "list.append" with | some sig => Bind.checkArgs "list.append" { sig with full := s!"{Bind.lastOf "list"}.{Bind.lastOf "list.append"}" } ⟨[.ref a, x], []⟩ | none => pure ()) = pure () := by kernel_rfl
theorem kind_append : builtinKind "list.append" = some .method := by kernel_rfl
theorem wpAny_check {a : Addr} {o : Obj} {x : Value} {Q : Unit → Shared → Prop} (ho : s.heap.get? a = some o) (hc : o.cls = .type "list") (hd : ∃ vs n, o.data = .seq vs n) (q : Q () s) : wpAny (model prog w) A (checkBoundCall "list.append" ⟨[.ref a, x], []⟩) Q E s := by
  have hT : s.TypeIs (.ref a) "list" := ⟨o, ho, hc⟩
  have f6 : isSubtype (.type "list") (.type "module") = pure false := by rw [isSubtype_type]; kernel_rfl
  have cs := check_sig (a := a) (x := x)
  unfold checkBoundCall
  cases hsig : Manifest.signature? "list.append" with
  | none => exact wpAny_pure q
  | some sig =>
    rw [hsig] at cs
    simp only [kind_append]
    refine wpAny_ite_false (by decide) ?_
    refine wpAny_bind (wpAny_isInstance hT f6 ?_)
    refine wpAny_ite_false (by decide +kernel) ?_
    obtain ⟨vs, n, hd⟩ := hd
    refine wpAny_bind ?_
    unfold isType loadHead
    refine wpAny_bind (wpAny_loadPart' ho ?_)
    rw [hd]
    refine wpAny_pure (wpAny_ite_false rfl ?_)
    refine wpAny_bind (wpAny_typeOf hT ?_)
    dsimp only
    refine wpAny_of_eq (a := ()) cs q
theorem quiet_append {as : Args} : (Code.builtin "list.append" as).quiet = true := Code.quiet_builtin _ (by decide +kernel)
theorem call_bapp {a b : Addr} {xs : Array Value} {n : Nat} {x : Value} {Q : Value → Shared → Prop} (hb : s.heap.get? b = some (bapp a)) (ho : s.heap.get? a = some (W.listOf xs n))
    (q : ∀ h', Heap.SameBut a s.heap h' → h'.get? a = some (W.listOf (xs.push x) (n + 1)) → Q .none { s with heap := h' }) (hsz : xs.size ≤ sizeLine) : wpAny (model prog w) A (call (.ref b) [x]) Q E s := by
  refine wpAny_call (codeAny_of_tree ?_)
  show wpAny _ A.in1 (callAny (.ref b) ⟨[x], []⟩) _ _ s
  simp only [callAny]
  refine wpAny_bind (wpAny_load hb ?_)
  simp only [show (Value.type "builtin_function_or_method" == Value.type "method" || Value.type "builtin_function_or_method" == Value.type "builtin_function_or_method" || Value.type "builtin_function_or_method" == Value.type "method-wrapper") = true by decide, if_true]
  refine wpAny_ite_true rfl ?_
  refine wpAny_bind (wpAny_check ho rfl ⟨_, _, rfl⟩ ?_)
  refine wpAny_bind (wpAny_pure (wpAny_pure ?_))
  refine ⟨quiet_append, codeAny_builtin entry_list_append ?_⟩
  show wpAny _ _ (updateSeq a (·.push x) >>= fun _ => ret .none) _ _ s
  refine wpAny_bind ?_
  refine wpAny_updateSeq ho rfl (wpAny_pure (q _ (Heap.SameBut.update ..) ?_))
  rw [Heap.get?_update_self _ ho (by rw [mapSeq_push]; rfl), mapSeq_push]
end
end
section
open PySem PySem.W PyProof.Rows PySem.Calls PySem.Builtin PySem.Builtin.Str
theorem callWith_bapp {M : Model} {A : Around} {E : Value → Shared → Prop} {s : Shared} {pos : Pos} {u a : Addr} {args : List (Bool × Sem Value)} {Q : Value → Shared → Prop} (hplain : args.any (·.1) = false)
    (h : wpAny M A (evalArgs (.ref u) true args []) (fun x s₁ => s₁.heap.get? u = some (bapp a) ∧ wpAny M A (call (.ref u) x.pos x.kw) Q E s₁) E s) : wpAny M A (callWith pos (.ref u) [] args []) Q E s := by
  unfold callWith
  refine wpAny_bind (wpAny_holding (wpAny_mono h (fun x s₁ h₁ => wpAny_bind (wpAny_standAt ?_)) fun _ _ x => x))
  obtain ⟨ho, hcall⟩ := h₁
  simp only [hplain, List.any_nil, Bool.or_false]
  refine wpAny_bind (m := keeperOf (.ref u)) ?_
  unfold keeperOf
  refine wpAny_bind (wpAny_load ho ?_)
  simp only [show (Value.type "builtin_function_or_method" != Value.type "method") = true by decide, show (Value.type "builtin_function_or_method" == Value.type "builtin_function_or_method" || Value.type "builtin_function_or_method" == Value.type "method-wrapper") = true by decide, if_true]
  refine wpAny_pure ?_
  exact wpAny_bind (wpAny_mono hcall (fun r s₂ hr => wpAny_bind (wpAny_holding (wpAny_point (wpAny_pure hr)))) fun _ _ x => x)
section
variable {c : Cf} {A : Around} {e : Env} {S : Heap → Prop} {pos p : Pos} {f : Str} {x : Expr} {rest : List Expr} {Q : Value → Heap → Prop}
  {H₀ H : Heap} {X : List Addr} {L a b : Addr} {m : List (Str × Option Value)} {led led' : List (Addr × OP)} {ims : List (Value × PyData)} {cl : List (Str × Addr)} {nm : List (Str × NameKind)} {xs : List Value}
/-! ### a bound method kept in a name -/
abbrev BApp (a : Addr) : OP := fun o => o = bapp a
theorem W_bound {o : Str} (E : Ev e L cl nm) (hv : Lo o (.ref a) m) (hm : (a, LsP xs) ∈ led) (q : ∀ b, Ent (St H₀ H X L m ((b, BApp a) :: led) ims) (Q (.ref b))) (hl : nm.lookup o = some .local := by kernel_rfl) (hd : (o == ("__debug__" : Str)) = false := by kernel_rfl)
    (hbase : attributeBase (.Name o p) "append" e (eval (.Name o p) e) = eval (.Name o p) e := by kernel_rfl) : Ent (St H₀ H X L m led ims) (W c A (eval (.Attribute (.Name o p) "append" pos) e) Q) := fun h s => by
  refine ⟨fun tk g hg => ?_⟩
  rw [arm_eval_Attribute, hbase]
  refine wpAny_bind ((W_local (Q := fun v h₁ => v = .ref a ∧ St H₀ H X L m led ims h₁) E hl hv (fun h s => ⟨rfl, s⟩) hd h s).up hg fun v h₁ g₁ tk₁ hg₁ x => ?_)
  obtain ⟨rfl, s⟩ := x
  obtain ⟨ob, h1, n, rfl⟩ := s.at hm
  refine wpAny_bind (wpAny_standAt (wpAny_bind (wpAny_holding (getAttr_append h1 fun tk' => ?_))))
  show wpAny _ A (do letTemporaryGo (.Name o p) (.ref a) _; pure _) _ _ _
  exact wpAny_bind (wpAny_pure (wpAny_pure (Post.mk' hg₁ (q _ _ (s.pushLed rfl rfl)))))
def AppQ (a b : Addr) (T : List Value → Heap → Prop) : List Value → Heap → Prop := fun vs h => ∃ v, vs = [v] ∧ h.get? b = some (bapp a) ∧ T vs h
theorem W_callApp (E : Ev e L cl nm) (hv : Lo f (.ref b) m) (hb : (b, BApp a) ∈ led)
    (H' : Ent (St H₀ H X L m led ims) (W c A (spliced (backTo pos (starEach (x :: rest) e))) (fun vs h => h.get? b = some (bapp a) ∧ W c A (call (.ref b) vs) Q h)))
    (hl : nm.lookup f = some .local := by kernel_rfl) (hd : (f == ("__debug__" : Str)) = false := by kernel_rfl)
    (he : starEach (x :: rest) e = (false, eval x e) :: starEach rest e := by kernel_rfl) (hp : (backTo pos (starEach rest e)).any (·.1) = false := by kernel_rfl)
    (hc : eval (.Call (.Name f p) (x :: rest) [] pos) e = (do callWith pos (← eval (.Name f p) e) [] (backTo pos (starEach (x :: rest) e)) (backToKw pos (keywordEach [] e))) := by kernel_rfl) :
    Ent (St H₀ H X L m led ims) (W c A (eval (.Call (.Name f p) (x :: rest) [] pos) e) Q) := by
  refine fun h s => ⟨fun _ _ hg => Call_ ((W_local (Q := fun fv => (fun h₁ => fv = .ref b ∧ W c A (spliced (backTo pos (starEach (x :: rest) e))) (fun vs h => h.get? b = some (bapp a) ∧ W c A (call (.ref b) vs) Q h) h₁)) E hl hv (fun h s => ⟨rfl, H' h s⟩) hd h s).up hg fun fv h' g' tk' hg' x => ?_) hc⟩
  obtain ⟨rfl, x⟩ := x
  rw [he] at x ⊢
  refine callWith_bapp (a := a) (by show (false || (backTo pos (starEach rest e)).any (·.1)) = false; rw [hp]; rfl) (evalArgs_plain (wpAny_mono (x.run tk' g' hg') (fun vs s₁ h₁ => ?_) fun _ _ x => x))
  obtain ⟨h₂, tk₂, g₂, rfl, hg₂, ho, hcall⟩ := h₁
  exact ⟨ho, hcall.run tk₂ g₂ hg₂⟩
/-- the bound method called: the list grows -/
theorem app_append {v : Value} (hb : (b, BApp a) ∈ led) (u : Up a (LsP xs) (LsP (xs ++ [v])) led led') (hf : xs.length ≤ 1000) (q : Ent (St H₀ H X L m led' ims) (Q .none)) :
    Ent (St H₀ H X L m led ims) (fun h => h.get? b = some (bapp a) ∧ W c A (call (.ref b) [v]) Q h) := fun h s => by
  obtain ⟨_, e1, rfl⟩ := s.at hb
  obtain ⟨o, ho, n, rfl⟩ := s.at u.mem
  exact ⟨e1, ⟨fun _ _ hg => call_bapp e1 ho (fun h' hs hd => Post.mk' hg (q h' (s.upd u (fun b o n e => (hs.2 b (fun q => n (q ▸ .head _))).trans e) ⟨_, hd, n + 1, by simp⟩))) (by simpa using sz hf)⟩⟩

/-! ### slices of a text -/
def NewSl (Q : Value → Heap → Prop) (l u : Value) : Heap → Prop := fun h => Q (.ref h.objs.size) (h.push { cls := .type "slice", data := .fields #[l, u, .none] })
theorem W_SlSS {lo hi : Expr} (H : Ent S (W c A (eval lo e) (fun l => W c A (eval hi e) (fun u => NewSl Q l u)))) : Ent S (W c A (eval (.Slice (some lo) (some hi) none pos) e) Q) := fun h s => ⟨fun tk g hg => wpAny_Slice (by
  show wpAny _ A (eval lo e) _ _ _
  exact (H h s).up hg fun l h₁ g₁ tk₁ hg₁ x => x.up hg₁ fun u h₂ g₂ tk₂ hg₂ y => wpAny_pure (Post.mk' hg₂ y))⟩
theorem W_SlNS {hi : Expr} (H : Ent S (W c A (eval hi e) (fun u => NewSl Q .none u))) : Ent S (W c A (eval (.Slice none (some hi) none pos) e) Q) := fun h s => ⟨fun tk g hg => wpAny_Slice (wpAny_pure (by
  show wpAny _ A (eval hi e) _ _ _
  exact (H h s).up hg fun u h₂ g₂ tk₂ hg₂ y => wpAny_pure (Post.mk' hg₂ y)))⟩
theorem W_SlSN {lo : Expr} (H : Ent S (W c A (eval lo e) (fun l => NewSl Q l .none))) : Ent S (W c A (eval (.Slice (some lo) none none pos) e) Q) := fun h s => ⟨fun tk g hg => wpAny_Slice (by
  show wpAny _ A (eval lo e) _ _ _
  exact (H h s).up hg fun l h₁ g₁ tk₁ hg₁ x => wpAny_pure (wpAny_pure (Post.mk' hg₁ x)))⟩
section
variable {y : Str} {t ui uj : Tok} {i j : Int} {ve se : Expr}
theorem s_ss (hz : y.length ≤ 1000) (q : ∀ t, Ent (St H₀ H X L m led ims) (Q (.str (Txt.slice y (some i) (some j)) t)))
    (hs : ∀ a, subscripted se false (.str y t) (.ref a) = operate [.ref a, .str y t] (getItem (.str y t) (.ref a)) := by intros; kernel_rfl) (ht : ∀ r, letTemporaryGo ve (.str y t) r = pure () := by intros; kernel_rfl) :
    Ent (St H₀ H X L m led ims) (NewSl (fun k => W c A (subscriptTail ve se (.str y t) k) Q) (.int i ui) (.int j uj)) := fun h s =>
  ⟨fun tk g hg => tail_of_ItemOn (SBH.sliceItem_ss (s := Sh c h g tk) (P := St H₀ H X L m led ims) (fun h ob z => z.grow fun b o e => Heap.get?_push_of_some _ e) s (fun h' t' k s' => Post.mk' hg (q t' h' s')) (sz hz)) (hs _) ht⟩
theorem s_ns (hz : y.length ≤ 1000) (q : ∀ t, Ent (St H₀ H X L m led ims) (Q (.str (Txt.slice y none (some j)) t)))
    (hs : ∀ a, subscripted se false (.str y t) (.ref a) = operate [.ref a, .str y t] (getItem (.str y t) (.ref a)) := by intros; kernel_rfl) (ht : ∀ r, letTemporaryGo ve (.str y t) r = pure () := by intros; kernel_rfl) :
    Ent (St H₀ H X L m led ims) (NewSl (fun k => W c A (subscriptTail ve se (.str y t) k) Q) .none (.int j uj)) := fun h s =>
  ⟨fun tk g hg => tail_of_ItemOn (SBH.sliceItem_ns (s := Sh c h g tk) (P := St H₀ H X L m led ims) (fun h ob z => z.grow fun b o e => Heap.get?_push_of_some _ e) s (fun h' t' k s' => Post.mk' hg (q t' h' s')) (sz hz)) (hs _) ht⟩
theorem s_sn (hz : y.length ≤ 1000) (q : ∀ t, Ent (St H₀ H X L m led ims) (Q (.str (Txt.slice y (some i) none) t)))
    (hs : ∀ a, subscripted se false (.str y t) (.ref a) = operate [.ref a, .str y t] (getItem (.str y t) (.ref a)) := by intros; kernel_rfl) (ht : ∀ r, letTemporaryGo ve (.str y t) r = pure () := by intros; kernel_rfl) :
    Ent (St H₀ H X L m led ims) (NewSl (fun k => W c A (subscriptTail ve se (.str y t) k) Q) (.int i ui) .none) := fun h s =>
  ⟨fun tk g hg => tail_of_ItemOn (SBH.sliceItem_sn (s := Sh c h g tk) (P := St H₀ H X L m led ims) (fun h ob z => z.grow fun b o e => Heap.get?_push_of_some _ e) s (fun h' t' k s' => Post.mk' hg (q t' h' s')) (sz hz)) (hs _) ht⟩
theorem x_last {ch : Nat} {u : Tok} (q : ∀ t, Ent S (Q (.str ⟨#[ch]⟩ t))) (hs : subscripted se false (.str ⟨#[ch]⟩ t) (.int (-1) u) = operate [.str ⟨#[ch]⟩ t, .int (-1) u] (getItem (.str ⟨#[ch]⟩ t) (.int (-1) u)) := by kernel_rfl)
    (ht : ∀ r, letTemporaryGo ve (.str ⟨#[ch]⟩ t) r = pure () := by intros; kernel_rfl) : Ent S (W c A (subscriptTail ve se (.str ⟨#[ch]⟩ t) (.int (-1) u)) Q) := fun h s =>
  ⟨fun tk g hg => PyProof.Rows.item_str (by decide) (by show -((1 : Nat) : Int) ≤ -1; decide) (by show (-1 : Int) < ((1 : Nat) : Int); decide) (fun _ => Post.mk' hg (q _ h s)) hs ht⟩
end
/-! ### looks into a text -/
theorem x_notIn {x y : Str} {t u : Tok} (q : Ent S (Q (.bool (!Txt.contains x y)))) : Ent S (W c A (compareOp .NotIn (.str y u) (.str x t)) Q) := fun h s => ⟨fun tk g hg => PySem.SB.notContains (Post.mk' hg (q h s))⟩
def find4 (x y : Str) (i j : Int) : Int := match occurrences x y (fromIndex x.length i) (min (fromIndex x.length j) x.length) 1 with | k :: _ => (k : Int) | [] => -1
theorem gives_find4 (x y : Str) (i j : Int) (t u v w : Tok) : Gives («str.find» ⟨[.str x t, .str y u, .int i v, .int j w], []⟩) (.int (find4 x y i j)) := by
  show Gives (match occurrences x y (fromIndex x.length i) (min (fromIndex x.length j) x.length) 1 with | k :: _ => retInt k | [] => (do rule "str.find.not-found"; retInt (-1))) _
  unfold find4
  cases occurrences x y (fromIndex x.length i) (min (fromIndex x.length j) x.length) 1 with
  | nil => exact .rule (.of_eq rfl)
  | cons k _ => exact .of_eq rfl
theorem x_find {x y : Str} {i j : Int} {t u v w : Tok} (q : ∀ t, Ent S (Q (.int (find4 x y i j) t))) : Ent S (W c A (call (.builtin "str.find") [.str x t, .str y u, .int i v, .int j w]) Q) := fun h s =>
  ⟨fun tk g hg => call_gives F.slot_str_find (typeIs_str _ _ _) F.entry_str_find (F.args_str_find_4 _ _ _ _) (gives_find4 x y i j t u v w) (Post.mk' hg (q _ h s))⟩
theorem x_replace {x y z : Str} {t u v : Tok} (hn : (occurrences x y 0 x.length (x.length + 1)).isEmpty = true) (q : Ent S (Q (.str x t))) : Ent S (W c A (call (.builtin "str.replace") [.str x t, .str y u, .str z v]) Q) := fun h s =>
  ⟨fun tk g hg => call_gives F.slot_str_replace (typeIs_str _ _ _) F.entry_str_replace (F.args_str_replace_3 _ _ _) (gives_str_replace x y z t u v fun hh => by rw [hn] at hh; cases hh) (by rw [hn]; exact Post.mk' hg (q h s))⟩
end
end
section
open PySem PySem.W PyProof.Rows PySem.Calls PySem.Builtin PySem.Builtin.Str
section
variable {c : Cf} {A : Around} {e : Env} {S : Heap → Prop} {pos p : Pos} {Q : Value → Heap → Prop}
  {H₀ H : Heap} {X : List Addr} {L a b : Addr} {m : List (Str × Option Value)} {led led' : List (Addr × OP)} {ims : List (Value × PyData)} {cl : List (Str × Addr)} {nm : List (Str × NameKind)} {xs : List Value}
theorem l_set {k : Int} {v : Value} {t : Tok} {U : Unit → Heap → Prop} (j : Nat) (u : Up a (LsP xs) (LsP (xs.set j v)) led led') (hk : k = (j : Int)) (h1 : j < xs.length) (hf : xs.length ≤ 1000)
    (q : Ent (St H₀ H X L m led' ims) (U ())) : Ent (St H₀ H X L m led ims) (W c A (setItem (.ref a) (.int k t) v) U) := by
  subst hk
  intro h s
  obtain ⟨o, ho, n, rfl⟩ := s.at u.mem
  exact ⟨fun _ _ hg => setAt ho (by omega) (by omega) (by simpa using h1) (Post.mk' hg (q _ (s.upd u (fun b o n e => ((Heap.SameBut.update ..).2 b (fun q => n (q ▸ .head _))).trans e) (ls_upd (ys := xs.set j v) ho (fun y => y.setIfInBounds j v) (by simp)))))⟩
theorem l_del {k : Int} {t : Tok} {U : Unit → Heap → Prop} (j : Nat) (u : Up a (LsP xs) (LsP (xs.eraseIdx j)) led led') (hk : k = (j : Int)) (h1 : j < xs.length) (hf : xs.length ≤ 1000)
    (q : Ent (St H₀ H X L m led' ims) (U ())) : Ent (St H₀ H X L m led ims) (W c A (delItem (.ref a) (.int k t)) U) := by
  subst hk
  intro h s
  obtain ⟨o, ho, n, rfl⟩ := s.at u.mem
  exact ⟨fun _ _ hg => P.delItem_list (k := j) ho (fitsIndex_of (by omega) (by omega)) (seqIndex_of (by omega) (by simpa using h1)) (Post.mk' hg (q _ (s.upd u (fun b o n e => ((Heap.SameBut.update ..).2 b (fun q => n (q ▸ .head _))).trans e) (ls_upd (ys := xs.eraseIdx j) ho (fun y => y.eraseIdxIfInBounds j) (by simp))))) (by simpa using sz hf)⟩
theorem W_DelSub {o i : Expr} {pos' : Pos} {Qf : Flow → Heap → Prop} (H : Ent S (W c A (eval o e) (fun ov => W c A (eval i e) (fun iv => W c A (delItem ov iv) (fun _ => Qf .next))))) : Ent S (W c A (exec (.Delete [.Subscript o i pos'] pos) e) Qf) := fun h s =>
  ⟨fun tk g hg => wpAny_Delete (wpAny_deleteEach_cons (wpAny_delete_Subscript ((H h s).up hg fun ov h₁ g₁ tk₁ hg₁ x => x.up hg₁ fun iv h₂ g₂ tk₂ hg₂ y => y.up hg₂ fun _ h₃ g₃ tk₃ hg₃ z => wpAny_deleteEach_nil (Post.mk' hg₃ z))))⟩
theorem l_len (hm : (a, LsP xs) ∈ led) (hf : xs.length ≤ 1000) (q : ∀ t, Ent (St H₀ H X L m led ims) (Q (.int xs.length t))) : Ent (St H₀ H X L m led ims) (W c A (call (.builtin "len") [.ref a]) Q) := by
  intro h s
  have l : Ls h a xs := s.at hm
  exact ⟨fun _ _ hg => call_len_list l.isList (by rw [List.size_toArray]; omega) (by rw [List.size_toArray]; exact Post.mk' hg (q _ h s))⟩
theorem range_down {t u v : Tok} {k : Int} (hk : k = 1) : Ent (St H₀ H X L m led ims) (W c A (call (.type "range") [.int k t, .int 0 u, .int (-1) v]) (fun xv => W c A (pyIter xv) (itQ fun I => St H₀ H X L m ((I, RI 1 (-1) 1 0) :: led) ims))) := by
  subst hk
  refine fun h s => ⟨fun tk g hg => call_range_3 (by decide) (Post.mk' hg ⟨fun tk g hg => ?_⟩) (Or.inl (PyProof.noPylong_small (by omega)))⟩
  have hr : Builtin.Range.rangeSize 1 0 (-1) = 1 := by decide
  refine wpAny_pyIter_range (Heap.get?_push_size _ rfl) (by decide) (Post.mk' hg ⟨_, rfl, ?_⟩)
  rw [hr]
  exact St.pushLed (s.grow fun b o e => Heap.get?_push_of_some _ e) rfl (by show _ = Obj.mk _ _ (.fields #[rawInt _, rawInt _, rawInt _]) _; simp)
/-! ### texts -/
theorem fv_str {v : Expr} (H : Ent S (W c A (eval v e) (strQ fun y t h => y.length ≤ 1000 ∧ ∀ t, Q (.str y t) h))) : Ent S (W c A (eval (.FormattedValue v (-1) none pos) e) Q) := fun h s =>
  ⟨fun tk g hg => FormattedValue_plain ((H h s).up hg fun v h₁ g₁ tk₁ hg₁ x => by
    obtain ⟨y, t, rfl, hz, q⟩ := x
    exact formatField_str (fun t' tk' => Post.mk' hg₁ (q t')) (sz hz))⟩
theorem W_fstr3 {a d : Str} {y : Expr} {k1 k2 : Nat} {p1 p2 : Pos} (ha : a.length + d.length ≤ 500) (H : Ent S (W c A (eval y e) (strQ fun b _ h => b.length ≤ 500 ∧ ∀ t, Q (.str (a ++ b ++ d) t) h))) :
    Ent S (W c A (eval (.JoinedStr [.Constant (.str a) k1 p1, y, .Constant (.str d) k2 p2] pos) e) Q) := fun h s => ⟨fun tk g hg => by
  have e0 : Str.empty ++ a = a := by
    show (⟨#[] ++ a.cps⟩ : Str) = a
    rw [Array.empty_append]
  refine JoinedStr_many (joinParts_cons (wpAny_Constant_str ?_))
  dsimp only
  rw [e0]
  refine ⟨sz (by omega), joinParts_cons (W.up (H h s) hg fun v h₂ g₂ tk₂ hg₂ q => ?_)⟩
  obtain ⟨b, t, rfl, hb, q⟩ := q
  dsimp only
  refine ⟨by rw [Str.length_append]; exact sz (by omega), joinParts_cons (wpAny_Constant_str ?_)⟩
  dsimp only
  have hz : (a ++ b ++ d).length ≤ 1000 := by rw [Str.length_append, Str.length_append]; omega
  exact ⟨sz hz, joinParts_nil (Post.mk' hg₂ (q _)) (sz hz)⟩⟩
theorem strsAre_two {x y : Str} {t u : Tok} : StrsAre [.str x t, .str y u] [x, y] := .cons _ _ (.cons _ _ .nil)
theorem inTup2 {x y z : Str} {t u v : Tok} {Q : Value → Heap → Prop} (q : Ent (St H₀ H X L m led ims) (Q (.bool ([x, y].any (· == z))))) :
    Ent (St H₀ H X L m led ims) (NewTup (fun tv => W c A (compareOp .In (.str z v) tv) Q) [.str x t, .str y u]) :=
  newTup (by simp) fun a h s => ⟨fun tk g hg => in_tuple_strs (s := Sh c h g tk) s.2 (by simpa using strsAre_two) (Post.mk' hg (q h s.1))⟩
/-! ### x, y = v, w: the second is stored first -/
def SwapQ (c : Cf) (A : Around) (e : Env) (x y : Str) (Qf : Flow → Heap → Prop) : Value → Heap → Prop := fun v h => ∃ a v1 v2, v = .ref a ∧ IsTup h a #[v1, v2] ∧ ∀ h', le h h' → W c A (storeName e y v2) (fun _ => W c A (storeName e x v1) (fun _ => Qf .next)) h'
theorem newSwap {x y : Str} {v1 v2 : Value} {Qf : Flow → Heap → Prop} (q : Ent (St H₀ H X L m led ims) (W c A (storeName e y v2) (fun _ => W c A (storeName e x v1) (fun _ => Qf .next)))) :
    Ent (St H₀ H X L m led ims) (NewTup (SwapQ c A e x y Qf) [v1, v2]) :=
  newTup (by simp) fun a h s => ⟨a, v1, v2, rfl, s.2, fun h' k => q h' (s.1.grow k)⟩
theorem bindName_W {x : Str} {v : Value} {h : Heap} {U : Unit → Heap → Prop} (H : W c A (storeName e x v) U h) : W c A (bindName e x v) U h := ⟨fun tk g hg => bindName_ (H.run tk g hg)⟩
theorem W_AssignSwap {x y : Str} {px py tp : Pos} {k : Nat} {value : Expr} {Qf : Flow → Heap → Prop} (ok : A.handled = none) (hw : swappedStores [.Tuple [.Name x px, .Name y py] k tp] value e = pure (some [x, y])) (H : Ent S (W c A (eval value e) (SwapQ c A e x y Qf)))
    (hs : swapsWithSole [.Tuple [.Name x px, .Name y py] k tp] value pos.line e = pure false := by kernel_rfl) : Ent S (W c A (exec (.Assign [.Tuple [.Name x px, .Name y py] k tp] value pos) e) Qf) := fun h s => ⟨fun tk g hg => by
  refine Assign_Tuple_swapped ((H h s).up hg fun v h₁ g₁ tk₁ hg₁ q => ?_) hs hw
  obtain ⟨a, v1, v2, rfl, ht, q⟩ := q
  refine unpackItems_tuple (s := Sh c h₁ g₁ tk₁) (items := #[v1, v2]) ok ht fun h' he => ?_
  have z := q h' fun b o z => he b o (Nat.ne_of_lt (Heap.lt_size z)) z
  show wpAny _ A (assignInOrder [fun v => bindName e y v, fun v => bindName e x v] [v2, v1]) _ _ _
  exact wpAny_bind (wpAny_holding ((W.mono z fun _ _ q => bindName_W q).k2 hg₁ |> fun z => wpAny_mono (bindName_ z) (fun _ _ q => wpAny_bind (wpAny_holding (wpAny_mono q (fun _ _ r => wpAny_pure r) fun _ _ x => x))) fun _ _ x => x))⟩
theorem swapped_two {x y : Str} {px py tp : Pos} {k k2 : Nat} {v1 v2 : Expr} {p3 : Pos} (E : Ev e L cl nm) (hx : nm.lookup x = some .local) (hy : nm.lookup y = some .local)
    (hl : (py.line == px.line) = true) (hne : (x == y) = false) (hst : ([v1, v2].any fun | .Starred .. => true | _ => false) = false) (hf : [v1, v2].all (foldedForSure 8) = false) (hcs : [v1, v2].all (constantsAlone 8) = false) :
    swappedStores [.Tuple [.Name x px, .Name y py] k tp] (.Tuple [v1, v2] k2 p3) e = pure (some [x, y]) := by
  have h1 : e.blockKind = .function := by unfold Env.blockKind; rw [E.kind]; rfl
  unfold swappedStores
  simp only [List.filterMap_cons, List.filterMap_nil, E.kindOf hx, E.kindOf hy, h1, hf, hcs, hst, List.head?_cons, Option.map_some, Option.getD_some, Expr.pos, hl, beq_self_eq_true, Bool.and_self, if_true, Bool.true_and, List.length_cons, List.length_nil]
  have hd : [x, y].eraseDups = [x, y] := by
    have hne' : (y == x) = false := by rw [beq_eq_false_iff_ne] at hne ⊢; exact fun q => hne q.symm
    simp [List.eraseDups_cons, hne, hne']
  rw [hd]
  refine (if_neg (by decide)).trans ((if_neg (fun q => Bool.false_ne_true (hst.symm.trans q))).trans ((if_neg ?_).trans rfl))
  simp
end
end
section
open PySem PySem.W PyProof.Rows PySem.Calls PySem.Builtin PySem.Builtin.Re
/-! ## the pattern finds nothing in these texts -/
def failed (m : Sre.M) : Bool := match m.outcome with | some .failed => true | _ => false
abbrev reNat : Array Nat := reCode.map Int.toNat
theorem re_three : ∀ lo hi : Fin 8, failed ((Sre.forSearch reNat #[97 + lo, 45, 97 + hi] 1 0 3 false).runFor reTurnSteps) = true := by decide +kernel
theorem re_empty : failed ((Sre.forSearch reNat #[] 1 0 0 false).runFor reTurnSteps) = true := by decide +kernel
theorem plainAttrs_re : PlainAttrs "re.Pattern" := ⟨⟨"object.__getattribute__", by rw [typeLookup_type, builtinLookup_eq_fast]; kernel_rfl, by decide +kernel⟩, by rw [typeLookup_type, builtinLookup_eq_fast]; kernel_rfl⟩
theorem slot_re_sub : Slot "re.Pattern" "sub" "re.Pattern.sub" :=
  .of (owner := "re.Pattern") (n := "sub") (by rw [typeLookup_type, builtinLookup_eq_fast]; kernel_rfl) (by decide +kernel) (by decide +kernel) (by decide +kernel)
    (by first | exact .inl (by decide +kernel) | exact .inr (by decide +kernel)) (by rw [isSubtype_type]; kernel_rfl)
theorem type_re_sub : typeOf (.builtin "re.Pattern.sub") = pure (.type "method_descriptor") := by show builtinType _ = _; rw [builtinType_eq_fast]; kernel_rfl
theorem entry_re_sub : entryFor table "re.Pattern.sub" = some Builtin.«re.Pattern.sub» := entryFor_of_tree (by kernel_rfl)
theorem entry_re_loop : entryFor table "re.Pattern.sub.loop" = some Builtin.«re.Pattern.sub.loop» := entryFor_of_tree (by kernel_rfl)
theorem args_re_sub (a b c : Value) : argsOk "re.Pattern.sub" ⟨[a, b, c], []⟩ := by unfold argsOk; kernel_rfl
theorem quiet_loop {as : Args} : (Code.builtin "re.Pattern.sub.loop" as).quiet = true := Code.quiet_builtin _ (by decide +kernel)
theorem fn_call : typeLookup (.type "function") "__call__" = pure (some (.builtin "function.__call__")) := by (rw [typeLookup_type, builtinLookup_eq_fast]; kernel_rfl)
section
variable {M : Model} {A : Around} {E : Value → Shared → Prop} {s : Shared}
theorem wpAny_rules {f : Nat → Bool} {n : Nat → String} {Q : PUnit → Shared → Prop} (q : Q ⟨⟩ s) : ∀ l : List Nat, wpAny M A (forIn l PUnit.unit fun i _ => if f i = true then (do rule (n i); pure (ForInStep.yield PUnit.unit)) else pure (ForInStep.yield PUnit.unit)) Q E s
  | [] => wpAny_pure q
  | i :: l => by
    rw [List.forIn_cons]
    refine wpAny_bind ?_
    by_cases h : f i = true
    · rw [if_pos h]; exact wpAny_bind (wpAny_rule (wpAny_pure (wpAny_rules q l)))
    · rw [if_neg h]; exact wpAny_pure (wpAny_rules q l)
theorem wpAny_reNone {m : Sre.M} {Q : Option Sre.M → Shared → Prop} (h : failed (m.runFor reTurnSteps) = true) (q : Q none s) : wpAny M A (reRunToEnd m) Q E s := by
  unfold reRunToEnd
  obtain ⟨n, hn⟩ : ∃ n, 2 ^ 64 = n + 1 := ⟨2 ^ 64 - 1, by decide⟩
  rw [hn]
  refine wpAny_bind ?_
  unfold reDrive
  have ho : (m.runFor reTurnSteps).outcome = some .failed := by
    unfold failed at h
    split at h
    · assumption
    · cases h
  simp only [ho, Option.isSome_some, if_true]
  refine wpAny_pure (wpAny_bind ?_)
  rw [ho]
  exact wpAny_rules (wpAny_pure q) _
/-- the compiled pattern and a text, looked at -/
theorem wpAny_whole {pat ptu : Addr} {x : Str} {t : Tok} {Q : ReTarget → Shared → Prop} (hp : PatIs s.heap pat ptu) (q : Q ⟨.ref pat, .str x t, reNat, x.cps, 0, 1, 0, x.cps.size⟩ s) : wpAny M A (reWholeTarget (.ref pat) (.str x t)) Q E s := by
  obtain ⟨o, fs, h1, h2, h3, h4, h5, h6, h7⟩ := hp.ob
  obtain ⟨o2, vs, n, g1, g2, g3⟩ := hp.cd
  unfold reWholeTarget
  refine wpAny_bind (wpAny_fieldsOf h1 h4 ?_)
  refine wpAny_bind (wpAny_of_eq (a := (x.cps, 0)) rfl ?_)
  dsimp only
  rw [h6]
  refine wpAny_ite_false rfl ?_
  refine wpAny_ite_false rfl ?_
  refine wpAny_bind (wpAny_of_eq (a := ()) rfl ?_)
  rw [h5, h7]
  refine wpAny_bind ?_
  unfold reRawItems
  refine wpAny_bind ?_
  show wpAny M A (seqItems? (.ref ptu)) _ _ _
  refine wpAny_seqItems g1 g2 (wpAny_pure (wpAny_pure ?_))
  rw [Option.getD_some, g3]
  exact q
end
section
variable {prog : Program} {w : World} {A : Around} {E : Value → Shared → Prop} {s : Shared}
theorem tree_loop {pat ptu D : Addr} {x : Str} {t : Tok} {repl : Value} {Q : Fin → Shared → Prop} (hp : PatIs s.heap pat ptu) (hD : s.heap.get? D = some (W.listOf #[] 0))
    (hf : failed ((Sre.forSearch reNat x.cps 1 0 x.cps.size false).runFor reTurnSteps) = true) (hz : x.length ≤ 1000)
    (q : ∀ h' tk t', Heap.SameBut D s.heap h' → Q (.done (.ret (.str x t'))) { s with heap := h', toks := tk }) :
    wpAny (model prog w) A (Builtin.«re.Pattern.sub.loop» ⟨[.ref pat, .str x t, repl, rawInt 1, rawInt 0, rawInt 0, rawInt 0, rawInt 0, .bool false, .ref D, .bool false], []⟩) Q E s := by
  unfold Builtin.«re.Pattern.sub.loop»
  refine wpAny_bind (wpAny_whole hp ?_)
  refine wpAny_ite_false (by decide) ?_
  refine wpAny_bind ?_
  refine wpAny_ite_false (by decide) ?_
  refine wpAny_reNone hf ?_
  dsimp only
  by_cases h0 : x.cps.size = 0
  · have hx : x = Str.empty := by
      obtain ⟨cs⟩ := x
      obtain rfl : cs = #[] := Array.size_eq_zero_iff.mp h0
      rfl
    subst hx
    refine wpAny_ite_false (by rfl) ?_
    refine wpAny_bind (wpAny_mkStr (x := Str.empty) ?_ (Nat.zero_le _))
    refine wpAny_bind (wpAny_seqItems hD rfl ?_)
    refine wpAny_ite_true rfl ?_
    refine wpAny_bind (wpAny_pure ?_)
    refine wpAny_ite_false (by decide) (wpAny_pure ?_)
    exact q _ _ _ ⟨rfl, fun _ _ => rfl⟩
  · have hx : (⟨x.cps.extract (Int.toNat 0) x.cps.size⟩ : Str) = x := by
      obtain ⟨cs⟩ := x
      show (⟨cs.extract 0 cs.size⟩ : Str) = ⟨cs⟩
      rw [Array.extract_size]
    refine wpAny_ite_true (by have : Int.toNat 0 = 0 := rfl; rw [this]; exact decide_eq_true (Nat.pos_of_ne_zero h0)) ?_
    refine wpAny_bind (wpAny_mkStr ?_ (by rw [hx]; exact sz hz))
    rw [hx]
    refine wpAny_bind (wpAny_updateSeq hD rfl ?_)
    rw [show reSlice x.cps 0 0 0 = mkStr ⟨#[]⟩ from by show mkStr ⟨x.cps.extract 0 0⟩ = _; rw [show x.cps.extract 0 0 = #[] from by simp]]
    refine wpAny_bind (wpAny_mkStr (x := ⟨#[]⟩) ?_ (Nat.zero_le _))
    have hD2 := IsL.update (n := 0) (items := #[]) hD (fun xs => xs.push (.str x s.toks))
    refine wpAny_bind (wpAny_seqItems hD2 rfl ?_)
    refine wpAny_ite_false rfl ?_
    refine wpAny_bind ?_
    show wpAny _ A (call (.builtin "str.join") [.str _ _, .ref D]) _ _ _
    refine join_list (ys := [x]) (IsL.isList hD2) (.cons _ _ .nil) (by show ([x.length].sum + 1 * 0 ≤ _); simp; omega) fun t' k => ?_
    refine wpAny_ite_false (by decide) (wpAny_pure ?_)
    have e : Txt.join ⟨#[]⟩ [x] = x := rfl
    rw [e]
    exact q _ _ _ (Heap.SameBut.update ..)
theorem tree_sub {pat ptu f : Addr} {of : Obj} {x : Str} {t : Tok} {R : Result → Shared → Prop} (hp : PatIs s.heap pat ptu) (hfn : s.heap.get? f = some of) (hfc : of.cls = .type "function")
    (hf : failed ((Sre.forSearch reNat x.cps 1 0 x.cps.size false).runFor reTurnSteps) = true) (hz : x.length ≤ 1000)
    (q : ∀ h' tk t', le s.heap h' → R (.ok (.ret (.str x t'))) { s with heap := h', toks := tk }) : codeAny (model prog w) A (.builtin "re.Pattern.sub" ⟨[.ref pat, .ref f, .str x t], []⟩) R s := by
  refine codeAny_builtin entry_re_sub ?_
  unfold Builtin.«re.Pattern.sub» reSubstitute
  dsimp only
  refine wpAny_bind (wpAny_of_eq (a := [some (.ref f), some (.str x t), none]) (by first | rfl | kernel_rfl) ?_)
  dsimp only
  refine wpAny_bind (wpAny_pure ?_)
  refine wpAny_bind (wpAny_specialOf (T := "function") ⟨of, hfn, hfc⟩ fn_call ?_)
  simp only [Option.isSome_some, if_true]
  refine wpAny_bind (wpAny_pure ?_)
  refine wpAny_bind (wpAny_pure ?_)
  dsimp only
  refine wpAny_bind (wpAny_holding (wpAny_whole hp ?_))
  refine wpAny_ite_true (by rfl) ?_
  have f6 : isSubtype (.type "str") (.type "bytearray") = pure false := by rw [isSubtype_type]; kernel_rfl
  refine wpAny_bind ?_
  unfold reNotHeld
  refine wpAny_bind (wpAny_isInstance (T := "str") (typeIs_str _ x t) f6 ?_)
  refine wpAny_ite_false rfl ?_
  refine wpAny_pure ?_
  refine wpAny_bind (wpAny_newList ?_ (Nat.zero_le _))
  refine wpAny_pure ⟨quiet_loop, codeAny_builtin entry_re_loop ?_⟩
  have k : le s.heap (s.heap.push { cls := .type "list", data := .seq ([] : List Value).toArray }) := fun b o e => Heap.get?_push_of_some _ e
  refine tree_loop (hp.keeps k) (Heap.get?_push_size _ rfl) hf hz fun h' tk t' hs => q h' tk t' fun b o e => (hs.2 b ?_).trans (k b o e)
  exact Nat.ne_of_lt (Heap.lt_size e)
theorem call_sub {pat ptu f : Addr} {of : Obj} {x : Str} {t : Tok} {Q : Value → Shared → Prop} (hp : PatIs s.heap pat ptu) (hfn : s.heap.get? f = some of) (hfc : of.cls = .type "function")
    (hf : failed ((Sre.forSearch reNat x.cps 1 0 x.cps.size false).runFor reTurnSteps) = true) (hz : x.length ≤ 1000)
    (q : ∀ h' tk t', le s.heap h' → Q (.str x t') { s with heap := h', toks := tk }) : wpAny (model prog w) A (call (.builtin "re.Pattern.sub") [.ref pat, .ref f, .str x t]) Q E s := by
  obtain ⟨o, fs, h1, h2, _⟩ := hp.ob
  refine wpAny_call (codeAny_call_builtin_code (Code.quiet_builtin _ (by decide +kernel)) (slot_re_sub.check _ _ _ _ _ _ _ _ ⟨o, h1, h2⟩ (args_re_sub _ _ _) ?_))
  exact tree_sub hp hfn hfc hf hz fun h' tk t' k => q h' tk t' k
end
section
variable {c : Cf} {A : Around} {H₀ H : Heap} {X : List Addr} {L f : Addr} {m : List (Str × Option Value)} {led : List (Addr × OP)} {ims : List (Value × PyData)} {Q : Value → Heap → Prop}
abbrev FnP : OP := fun o => o.cls = .type "function"
theorem re_sub {x : Str} {t : Tok} (B : Bs c H₀) (hm : (f, FnP) ∈ led) (hf : failed ((Sre.forSearch reNat x.cps 1 0 x.cps.size false).runFor reTurnSteps) = true) (hz : x.length ≤ 1000) (q : ∀ t, Ent (St H₀ H X L m led ims) (Q (.str x t))) :
    Ent (St H₀ H X L m led ims) (W c A (call (.builtin "re.Pattern.sub") [.ref c.pat, .ref f, .str x t]) Q) := fun h s => by
  obtain ⟨o, h1, h2⟩ := s.at hm
  exact ⟨fun tk g hg => call_sub (s := Sh c h g tk) (B.pt.keeps s.bs) h1 h2 hf hz fun h' tk' t' k => Post.mk' hg (q t' h' (s.grow k))⟩
end
end
section
open PySem PySem.W PyProof.Rows PySem.Calls
abbrev CodeP : OP := fun o => ∃ ps, o = { cls := .none, data := .fields ps } ∧ TriplesOk ps.toList
theorem isCode_at {h : Heap} {cc cp : Addr} {ps : Array Value} (x : h.IsCode cc cp ps) (t : h.TableAt cc cp ps) : ∃ o, h.get? cp = some o ∧ CodeP o := by
  obtain ⟨o, vs, file, tf, flags, tg, inF, text, tt, op, _, _, _, _, _, _, _, h1, h2, h3, _⟩ := x
  exact ⟨_, t.2, ps, rfl, h3⟩
section
variable {c : Cf} {A : Around} {e : Env} {H₀ H : Heap} {X : List Addr} {L : Addr} {m : List (Str × Option Value)} {led : List (Addr × OP)} {ims : List (Value × PyData)} {cl : List (Str × Addr)} {nm : List (Str × NameKind)} {Q : Value → Heap → Prop} {pos : Pos}
theorem St.code {h : Heap} (B : Bs c H₀) (s : St H₀ H X L m led ims h) (u : Up c.cp CodeP CodeP led led) : ∃ ps, h.IsCode c.cc c.cp ps ∧ h.TableAt c.cc c.cp ps := by
  obtain ⟨o, h1, ps, rfl, h3⟩ := s.at u.mem
  exact ⟨ps, B.ct h ps s.bs h1 h3⟩
theorem St.recode {h h' : Heap} (s : St H₀ H X L m led ims h) (u : Up c.cp CodeP CodeP led led) (hx : Heap.ExtBut c.cp h h') (hc : ∃ o, h'.get? c.cp = some o ∧ CodeP o) : St H₀ H X L m led ims h' :=
  s.upd u (fun b o n e => hx b o (fun q => n (q ▸ .head _)) e) hc
theorem W_Lambda {params : Arguments} {body : Expr} {scope : Scope} (B : Bs c H₀) (E : Ev e L cl nm) (hcd : e.code = .ref c.cc) (u : Up c.cp CodeP CodeP led led) (q : ∀ f, Ent (St H₀ H X L m ((f, FnP) :: led) ims) (Q (.ref f)))
    (hd : defaultsOf params e = ([], []) := by kernel_rfl) (hcl : clos cl scope.names [] = some [] := by kernel_rfl) : Ent (St H₀ H X L m led ims) (W c A (eval (.Lambda params body scope pos) e) Q) := fun h s => by
  refine ⟨fun tk g hg => ?_⟩
  rw [arm_eval_Lambda, hd]
  show wpAny _ A (do let dv ← evalAll []; let kdv ← holding dv (evalAllOpt []); makeFunction "<lambda>" (e.qual ++ "<lambda>") params (.expr body) scope e dv kdv [] pos pos.line) _ _ _
  refine wpAny_bind (wpAny_pure (wpAny_bind (wpAny_holding (wpAny_pure ?_))))
  rw [makeFunction_eq]
  simp only [List.zip_nil_right, List.filterMap_nil, List.isEmpty_nil, if_true, pure_bind]
  unfold makeTail
  rw [closureFor_of (cl := []) (by rw [E.cel]; exact hcl)]
  refine wpAny_bind (wpAny_pure ?_)
  simp only [List.isEmpty_nil, if_true]
  refine wpAny_bind (wpAny_pure ?_)
  obtain ⟨ps, hps, htb⟩ := s.code B u
  obtain ⟨mg, mb, N⟩ := B.ns
  have tail : ∀ (cv : Value) (h' : Heap) (tk' : Nat), St H₀ H X L m led ims h' → wpAny (Mo c) A (builtinsFor e.globals e.builtins >>= fun bi => nsGet e.globals "__name__" >>= fun pm => newObj (.type "function") (.func { name := "<lambda>", qualname := e.qual ++ "<lambda>", params, body := .expr body, scope, globals := e.globals, closure := [], defaults := .none, kwdefaults := .none, doc := .none, pyModule := pm.getD .none, annotations := none, code := cv, closureTuple := .none, builtins := bi })) (Post c Q) NoE (Sh c h' g tk') := fun cv h' tk' s' => by
    obtain ⟨bm, ob, b1, b2, b3, b4, b5, b6⟩ := N.bm
    rw [E.glb]
    refine wpAny_bind (wpAny_builtinsFor (N.g.keeps s'.bs) b1 b2 (s'.bs _ _ b3) b4 b5 b6 ?_)
    refine wpAny_bind (wpAny_nsGet (N.g.keeps s'.bs) ?_)
    exact wpAny_newObj_type (Post.mk' hg (q _ _ (s'.pushLed rfl rfl)))
  cases hf : codeAmong pos ps.toList with
  | some cv =>
    refine wpAny_bind (wpAny_functionCode_hit hcd hps hf ?_)
    exact tail cv h tk s
  | none =>
    refine wpAny_bind (wpAny_functionCodeX hcd hps htb hf fun c' h' tk' hx _ _ hps' _ htb' _ => ?_)
    exact tail _ h' tk' (s.recode u hx (isCode_at hps' htb'))
end
end
section
open PySem PySem.W PyProof.Rows PySem.Calls PySem.Builtin PySem.Builtin.Str
theorem range_all (n : Nat) : passing (fun _ => true) n 0 = List.range n := by
  unfold passing; rw [List.drop_zero]; exact List.filter_eq_self.mpr fun _ _ => rfl
/-- what the element of a generator does -/
def EltOk (scope : Scope) (elt : Expr) (x : Str) (ok : Str → Prop) : Prop := ∀ {prog : Program} {w : World} {A' : Around} {E' : Value → Shared → Prop} {s₂ : Shared} {cenv : Env} {m₂ : Str → Option Value} {y : Str} {t : Tok},
  cenv.scope = scope → s₂.heap.Ns cenv.locals m₂ → m₂ x = some (.str y t) → ok y → wpAny (model prog w) A' (eval elt cenv) (fun r s₃ => (∃ u, r = .str y u) ∧ Keeps s₂ s₃) E' s₂
section
variable {c : Cf} {A : Around} {e : Env} {H₀ H : Heap} {X : List Addr} {L a : Addr} {m : List (Str × Option Value)} {led : List (Addr × OP)} {ims : List (Value × PyData)} {cl : List (Str × Addr)} {nm : List (Str × NameKind)} {Q : Value → Heap → Prop} {pos : Pos} {xs : List Value} {ts : List Str}
theorem genCode {Ml : Model} {A : Around} {E : Value → Shared → Prop} {s : Shared} {env : Env} {cc cp : Addr} {ps : Array Value} {pos : Pos} {qualname : Str} {scope : Scope} {Q : Value → Shared → Prop} (hc : env.code = .ref cc) (hok : s.heap.IsCode cc cp ps) (htb : s.heap.TableAt cc cp ps)
    (q : ∀ code h' tk, Heap.ExtBut cp s.heap h' → (∃ o, h'.get? cp = some o ∧ CodeP o) → Q code { s with heap := h', toks := tk }) : wpAny Ml A (genexprCode env pos qualname scope) Q E s := by
  cases hf : codeAmong pos ps.toList with
  | some cv => exact wpAny_genexprCode_hit hc hok hf (q cv s.heap s.toks (fun _ _ _ e => e) (isCode_at hok htb))
  | none => exact wpAny_genexprCodeX hc hok htb hf fun c' h' tk hx _ _ hok' _ htb' _ => q _ h' tk hx (isCode_at hok' htb')
theorem joinCore {sep y x : Str} {t : Tok} {px py gpos : Pos} {elt : Expr} {scope : Scope} {okk : Str → Prop} {j : Nat} (B : Bs c H₀) (E : Ev e L cl nm) (ok : Ok A j) (hcd : e.code = .ref c.cc) (u : Up c.cp CodeP CodeP led led) (hl : nm.lookup y = some .local) (hv : Lo y (.ref a) m)
    (hm : (a, LsP xs) ∈ led) (hts : StrsAre xs ts) (hok : ∀ z ∈ ts, okk z) (hel : EltOk scope elt x okk) (hlen : ts.length ≤ 1000) (hj : JoinOk sep ts = true) (q : ∀ t, Ent (St H₀ H X L m led ims) (Q (.str (Txt.join sep ts) t)))
    (hd : (y == ("__debug__" : Str)) = false) (hco : scope.isCoroutine = false) (hcl : clos cl scope.names [] = some []) (hcell : (scope.names.all fun y => y.2 != .cell) = true)
    (h0 : scope.names.lookup (".0" : Str) = some NameKind.local) (hx : scope.names.lookup x = some .local) (hkind : scope.kind = .function) (hs : ∀ x, genFold (.Name y py) e x = pure x) {h : Heap} {tk : Nat} {g : Array GenState} (s : St H₀ H X L m led ims h) (hg : AllBare g) :
    wpAny (Mo c) A (eval (.GeneratorExp elt [⟨.Name x px, .Name y py, [], 0⟩] scope gpos) e) (fun v s₁ => wpAny (Mo c) A (call (.builtin "str.join") [.str sep t, v]) (Post c Q) NoE s₁) NoE (Sh c h g tk) := by
  obtain ⟨mg, mb, N⟩ := B.ns
  refine wpAny_GeneratorExp_walksQ ok.hd hco (closureFor_of (by rw [E.cel]; exact hcl)) (fun y hy => bne_iff_ne.mp (List.all_eq_true.mp hcell y hy)) h0 hx hkind (by have := ok.dp; omega)
    ((W_local (Q := fun v h₁ => v = .ref a ∧ St H₀ H X L m led ims h₁) E hl hv (fun h s => ⟨rfl, s⟩) hd h s).up hg fun xv h₁ g₁ tk₁ hg₁ z => ?_) hs
  obtain ⟨rfl, s₁⟩ := z
  obtain ⟨_, ho, n, rfl⟩ := s₁.at hm
  have hL : h₁.IsList a xs.toArray := IsL.isList (n := n) ho
  have k₂ : le h₁ (h₁.push { cls := .type "list_iterator", data := .fields #[.ref a, .int 0 0] }) := fun b o e => Heap.get?_push_of_some _ e
  have s₂ := s₁.grow k₂
  refine wpAny_pyIter_list (s := Sh c h₁ g₁ tk₁) hL ⟨B.lim.keeps s₂.bs, ?_⟩
  obtain ⟨ps, hps, htb⟩ := s₂.code B u
  refine genCode hcd hps htb fun code h₃ tk₃ hx₃ hcd₃ => ?_
  have s₃ := s₂.recode u hx₃ hcd₃
  obtain ⟨bm, ob, b1, b2, b3, b4, b5, b6⟩ := N.bm
  rw [E.glb]
  refine wpAny_builtinsFor (N.g.keeps s₃.bs) b1 b2 (s₃.bs _ _ b3) b4 b5 b6 ?_
  have hcpa : c.cp ≠ a := fun q => by
    obtain ⟨o1, e1, ps1, d1, _⟩ := s₁.at u.mem
    rw [q, ho] at e1; cases e1; cases d1
  have hcpI : c.cp < h₁.objs.size := by obtain ⟨o1, e1, _⟩ := s₁.at u.mem; exact Heap.lt_size e1
  have hal : a < h₁.objs.size := Heap.lt_size ho
  have hcs : cStatics < h₁.objs.size := let ⟨_, hn, _⟩ := B.lim.keeps s₁.bs; hn.lt
  have keep3 : ∀ b o, b ≠ c.cp → h₁.get? b = some o → h₃.get? b = some o := fun b o n e => hx₃ b o n (k₂ b o e)
  have hI : h₃.get? h₁.objs.size = some { cls := .type "list_iterator", data := .fields #[.ref a, .int 0 0] } := hx₃ _ _ (Nat.ne_of_gt hcpI) (Heap.get?_push_size _ rfl)
  have hIs : h₁.objs.size < h₃.objs.size := Heap.lt_size hI
  have hL3 : h₃.IsList a xs.toArray := by obtain ⟨o, e, r⟩ := hL; exact ⟨o, keep3 _ _ (Ne.symm hcpa) e, r⟩
  have hsz : xs.length = ts.length := hts.length
  refine ⟨h₁.objs.size, [h₁.objs.size, a], [h₁.objs.size], xs.toArray.size, _, _, fun _ => true, fun i r => ∃ u, r = .str (ts.getD i "") u, rfl, (fun A' hA => Walks.list hA _ _ (Nat.ne_of_lt hal) xs.toArray), ⟨⟨_, hI, rfl, rfl⟩, hL3⟩, ?_, B.lim.keeps s₃.bs, ?_, fun href hk => ⟨?_, ?_⟩, ?_⟩
  · intro b hb
    rcases List.mem_cons.mp hb with rfl | hb
    · exact hIs
    · rw [List.mem_singleton.mp hb]; exact Nat.lt_trans hal hIs
  · intro q
    rw [List.mem_singleton.mp q] at hcs
    exact Nat.lt_irrefl _ hcs
  · intro A' E' i v s₅ m₅ _ _ _ _ _
    exact wpAny_pure ⟨rfl, s₅.heap, s₅.toks, rfl, fun _ _ e => e⟩
  · intro A' E' i v s₅ m₅ _ hi _ hn hv _
    have hi' : xs[i]? = some v := by simpa using hi
    have hlt : i < ts.length := by rw [← hsz]; exact (List.getElem?_eq_some_iff.mp hi').1
    obtain ⟨u, hu⟩ := hts.get i ts[i] (List.getElem?_eq_getElem hlt)
    rw [hi'] at hu
    cases hu
    have e2 : ts.getD i "" = ts[i] := by simp [List.getD_eq_getElem?_getD, hlt]
    rw [e2]
    exact hel (cenv := genEnv scope [] h₃.objs.size code builtinsNs e) rfl hn hv (hok _ (List.getElem_mem hlt))
  · intro a' h₅ tk₅ gs hgb hlt5 hsz5 k₅ W5 hat
    rw [range_all] at W5
    refine SC.joinGen W5.in4_2 (fun i s st => st.1.typeIs) hat ?_ (.head _) (fun j v hv => ?_) (fun s' l hm' hit => ?_) (by rw [List.length_range, List.size_toArray, hsz]; exact sz hlen)
    · intro b hb
      show b < h₅.objs.size
      rw [hsz5]
      rcases List.mem_cons.mp hb with rfl | hb
      · exact Nat.lt_succ_self _
      · rcases List.mem_cons.mp hb with rfl | hb
        · exact Nat.lt_succ_of_lt hlt5
        · exact Nat.lt_succ_of_lt (Nat.lt_trans (List.mem_range.mp hb) hlt5)
    · obtain ⟨i, _, u, rfl⟩ := hv
      exact ⟨_, u, rfl⟩
    · have hln : l.length = ts.length := by
        have := hit.1
        simpa [strValues, hsz] using this
      have hlt : l.map (·.1) = ts := by
        apply List.ext_getElem?
        intro j
        by_cases hj : j < ts.length
        · have hj' : j < l.length := by rw [hln]; exact hj
          obtain ⟨i, hi, u, hv⟩ := hit.2 j (.str l[j].1 l[j].2) (by simp [strValues, List.getElem?_eq_getElem hj'])
          have hij : i = j := by
            have := List.getElem?_eq_some_iff.mp hi
            obtain ⟨h1, h2⟩ := this
            simpa using h2.symm
          subst hij
          injection hv with h1 _
          have e2 : ts.getD i "" = ts[i] := by simp [List.getD_eq_getElem?_getD, hj]
          rw [e2] at h1
          simp [List.getElem?_eq_getElem hj', hj, h1]
        · rw [List.getElem?_eq_none (by rw [List.length_map, hln]; omega), List.getElem?_eq_none (by omega)]
      rw [hlt]
      refine ⟨hj, fun t' k => ?_⟩
      obtain ⟨m1, m2, m3, m4, _⟩ := hm'
      obtain ⟨hh', gg', dd', tt', oo'⟩ := s'
      simp only at m3 m4
      subst m3 m4
      have kF : ∀ b o, b ≠ c.cp → h₁.get? b = some o → hh'.get? b = some o := fun b o nb eb => by
        have hb := Heap.lt_size eb
        refine m1 b o (fun q => ?_) (k₅ _ _ (keep3 b o nb eb))
        rcases List.mem_cons.mp q with q | q
        · rw [q] at hb; exact Nat.lt_irrefl _ (Nat.lt_trans hIs hb)
        · rw [List.mem_singleton.mp q] at hb; exact Nat.lt_irrefl _ hb
      refine ⟨hh', k, gg', rfl, AllBare.moved (hg₁.push hgb) m2, q t' hh' (s₁.upd u (fun b o n e => kF b o (fun q => n (q ▸ .head _)) e) ?_)⟩
      obtain ⟨oc, e1, pc⟩ := hcd₃
      refine ⟨oc, m1 c.cp oc (fun q => ?_) (k₅ _ _ e1), pc⟩
      rcases List.mem_cons.mp q with q | q
      · rw [q] at hcpI; exact Nat.lt_irrefl _ (Nat.lt_trans hIs hcpI)
      · rw [List.mem_singleton.mp q] at hcpI; exact Nat.lt_irrefl _ hcpI
theorem W_joinG {sep y x : Str} {px py gpos apos cpos : Pos} {kk : Nat} {elt : Expr} {scope : Scope} {okk : Str → Prop} {j : Nat} (B : Bs c H₀) (E : Ev e L cl nm) (ok : Ok A j) (hcd : e.code = .ref c.cc) (u : Up c.cp CodeP CodeP led led) (hv : Lo y (.ref a) m)
    (hm : (a, LsP xs) ∈ led) (hts : StrsAre xs ts) (hok : ∀ z ∈ ts, okk z) (hel : EltOk scope elt x okk) (hlen : ts.length ≤ 1000) (hj : JoinOk sep ts = true) (q : ∀ t, Ent (St H₀ H X L m led ims) (Q (.str (Txt.join sep ts) t))) (hl : nm.lookup y = some .local := by kernel_rfl)
    (hd : (y == ("__debug__" : Str)) = false := by kernel_rfl) (hco : scope.isCoroutine = false := by kernel_rfl) (hcl : clos cl scope.names [] = some [] := by kernel_rfl) (hcell : (scope.names.all fun y => y.2 != .cell) = true := by kernel_rfl)
    (h0 : scope.names.lookup (".0" : Str) = some NameKind.local := by kernel_rfl) (hx : scope.names.lookup x = some .local := by kernel_rfl) (hkind : scope.kind = .function := by kernel_rfl) (hs : ∀ x, genFold (.Name y py) e x = pure x := by intros; kernel_rfl)
    (hbase : attributeBase (.Constant (.str sep) kk cpos) "join" e (eval (.Constant (.str sep) kk cpos) e) = eval (.Constant (.str sep) kk cpos) e := by kernel_rfl)
    (hfew : ((backTo pos (starEach [.GeneratorExp elt [⟨.Name x px, .Name y py, [], 0⟩] scope gpos] e)).all (fun x => !x.1) && (backToKw pos (keywordEach [] e)).all (fun x => x.1.isSome)
      && decide ([Expr.GeneratorExp elt [⟨.Name x px, .Name y py, [], 0⟩] scope gpos].length + ([] : List Keyword).length + (if ([] : List Keyword).isEmpty then 0 else 1) < 30)) = true := by kernel_rfl)
    (hline : (apos.endLine == pos.line) = true := by kernel_rfl)
    (he : starEach [.GeneratorExp elt [⟨.Name x px, .Name y py, [], 0⟩] scope gpos] e = (false, eval (.GeneratorExp elt [⟨.Name x px, .Name y py, [], 0⟩] scope gpos) e) :: starEach [] e := by kernel_rfl) (hp : (backTo pos (starEach [] e)).any (·.1) = false := by kernel_rfl) :
    Ent (St H₀ H X L m led ims) (W c A (eval (.Call (.Attribute (.Constant (.str sep) kk cpos) "join" apos) [.GeneratorExp elt [⟨.Name x px, .Name y py, [], 0⟩] scope gpos] [] pos) e) Q) := fun h s =>
  ⟨fun tk g hg => wpAny_Call_method hbase hfew hline F.plainAttrs_str F.slot_str_join F.type_str_join (wpAny_Constant_str ⟨typeIs_str _ _ _, fun a q => (nomatch q), callWith_method1 (args_cons (wpAny_mono
    (joinCore B E ok hcd u hl hv hm hts hok hel hlen hj q hd hco hcl hcell h0 hx hkind hs s hg) (fun v s₁ z => args_nil z) fun _ _ x => x) he) he hp⟩)⟩
end
end
section
open PySem PySem.W PyProof.Rows PySem.Calls PySem.Builtin PySem.Builtin.Str
def noSub (x y : Str) : Prop := (occurrences x y 0 x.length (x.length + 1)).isEmpty = true
section
variable {prog : Program} {w : World} {A : Around} {E : Value → Shared → Prop} {s : Shared} {env : Env} {pos apos p1 p2 p3 p4 p5 p6 p7 : Pos} {k1 k2 k3 k4 : Nat} {y1 y2 y3 y4 : Str}
theorem raw_replace {o : Expr} {Q : Value → Shared → Prop} (h : wpAny (model prog w) A (eval o env) (fun v s₁ => ∃ x t, v = .str x t ∧ noSub x y1 ∧ ∀ tk, Q (.str x t) { s₁ with toks := tk }) E s)
    (hbase : attributeBase o "replace" env (eval o env) = eval o env) (hline : (apos.endLine == pos.line) = true) :
    wpAny (model prog w) A (eval (.Call (.Attribute o "replace" apos) [.Constant (.str y1) k1 p1, .Constant (.str y2) k2 p2] [] pos) env) Q E s :=
  wpAny_Call_method hbase (by rfl) hline F.plainAttrs_str F.slot_str_replace F.type_str_replace (wpAny_mono h (fun v s₁ z => by
    obtain ⟨x, t, rfl, hn, q⟩ := z
    exact ⟨typeIs_str _ _ _, fun a q => (nomatch q), callWith_method1 (args_cons (wpAny_Constant_str (args_cons (wpAny_Constant_str (args_nil
      (call_gives F.slot_str_replace (typeIs_str _ _ _) F.entry_str_replace (F.args_str_replace_3 _ _ _) (gives_str_replace x y1 y2 _ _ _ fun hh => by rw [hn] at hh; cases hh) (by rw [hn]; exact q _))))))) ⟩) fun _ _ x => x)
theorem elt_replace {scope : Scope} {xn : Str} (hx : scope.names.lookup xn = some .local) (hk : scope.kind = .function) (hd : (xn == ("__debug__" : Str)) = false) (h1 : (p2.endLine == p5.line) = true) (h2 : (p6.endLine == p7.line) = true) :
    EltOk scope (.Call (.Attribute (.Call (.Attribute (.Name xn p1) "replace" p2) [.Constant (.str y1) k1 p3, .Constant (.str y2) k2 p4] [] p5) "replace" p6) [.Constant (.str y3) k3 pos, .Constant (.str y4) k4 apos] [] p7) xn (fun y => noSub y y1 ∧ noSub y y3) := by
  intro prog w A' E' s₂ cenv m₂ y t hsc hn hm hok
  refine raw_replace (raw_replace (wpAny_Name (wpAny_loadName_local (by rw [hsc]; exact hk) (by unfold Env.kindOf; rw [hsc]; exact hx) hn hm ?_) hd) (by rfl) h1) (by rfl) h2
  exact ⟨y, t, rfl, hok.1, fun tk => ⟨y, t, rfl, hok.2, fun tk' => ⟨⟨t, rfl⟩, s₂.heap, tk', rfl, fun _ _ e => e⟩⟩⟩
end
/-- the letters, the pieces of a bracket -/
theorem noSub_ltr : ∀ k : Fin 8, noSub ⟨#[97 + k]⟩ (Str.ofString "\\") ∧ noSub ⟨#[97 + k]⟩ (Str.ofString "-") := by unfold noSub; decide +kernel
theorem noSub_nil : noSub ⟨#[]⟩ (Str.ofString "\\") ∧ noSub ⟨#[]⟩ (Str.ofString "-") := by unfold noSub; decide +kernel
theorem has_dash : ∀ lo hi : Fin 8, Txt.contains ⟨#[97 + lo, 45, 97 + hi]⟩ (Str.ofString "-") = true := by decide +kernel
theorem sl_init : ∀ k : Fin 8, Txt.slice ⟨#[97 + k]⟩ none (some (-1)) = ⟨#[]⟩ := by decide +kernel
theorem sl_rest : ∀ k : Fin 8, Txt.slice ⟨#[97 + k]⟩ (some 1) none = ⟨#[]⟩ := by decide +kernel
theorem join_two : ∀ lo hi : Fin 8, Txt.join (Str.ofString "-") [⟨#[97 + lo]⟩, ⟨#[97 + hi]⟩] = ⟨#[97 + lo, 45, 97 + hi]⟩ := by decide +kernel
theorem joinOk_two : ∀ lo hi : Fin 8, JoinOk (Str.ofString "-") [⟨#[97 + lo]⟩, ⟨#[97 + hi]⟩] = true := by decide +kernel
theorem join_one : Txt.join (Str.ofString "-") [⟨#[]⟩] = ⟨#[]⟩ := by decide +kernel
theorem joinOk_one : JoinOk (Str.ofString "-") [⟨#[]⟩] = true := by decide +kernel
theorem bra_in : ∀ lo hi : Fin 8, Str.ofString "[" ++ ⟨#[97 + lo, 45, 97 + hi]⟩ ++ Str.ofString "]" = bra lo hi := by decide +kernel
end
section
open PySem PySem.W PyProof.Rows PySem.Calls PySem.Builtin PySem.Builtin.Str
/-! ## a piece S of a text, behind P -/
structure Piece (x : Str) (P S : List Nat) : Prop where
  ex : ∃ R, x.cps.toList = P ++ (S ++ R)
section
variable {x : Str} {P S : List Nat}
theorem Piece.len (h : Piece x P S) : P.length + S.length ≤ x.length := by
  obtain ⟨R, e⟩ := h.ex
  have := congrArg List.length e
  simp only [Array.length_toList, List.length_append] at this
  show _ ≤ x.cps.size
  omega
theorem Piece.at (h : Piece x P S) (k : Nat) (hk : k < S.length) : x.cps[P.length + k]? = some S[k] := by
  obtain ⟨R, e⟩ := h.ex
  rw [← Array.getElem?_toList, e, List.getElem?_append_right (by omega), Nat.add_sub_cancel_left, List.getElem?_append_left hk]
  exact List.getElem?_eq_getElem hk
theorem Piece.slice (h : Piece x P S) (a b : Nat) (hab : a ≤ b) (hb : b ≤ S.length) : Txt.slice x (some ((P.length + a : Nat) : Int)) (some ((P.length + b : Nat) : Int)) = ⟨((S.drop a).take (b - a)).toArray⟩ := by
  have hl := h.len
  have e0 : Txt.slice x (some ((P.length + a : Nat) : Int)) (some ((P.length + b : Nat) : Int)) = StrLaws.sliceText x (some ((P.length + a : Nat) : Int)) (some ((P.length + b : Nat) : Int)) := rfl
  rw [e0, StrLaws.sliceText_nat x (by omega) (by omega)]
  obtain ⟨R, e⟩ := h.ex
  rw [e, show P.length + b - (P.length + a) = b - a by omega, ← List.drop_drop, List.drop_left, List.drop_append_of_le_length (by omega), List.take_append_of_le_length (by rw [List.length_drop]; omega)]
theorem from_nat (n k : Nat) : fromIndex n (k : Int) = k := by unfold fromIndex; rw [if_neg (by omega)]; omega
theorem Piece.find (h : Piece x P S) (a b : Nat) (ha : a < b) (hb : b ≤ S.length) (hc : S[a]? = some 45) : find4 x (Str.ofString "-") ((P.length + a : Nat) : Int) ((P.length + b : Nat) : Int) = ((P.length + a : Nat) : Int) := by
  have hl := h.len
  have hlt : a < S.length := by omega
  have hat := h.at a hlt
  rw [show S[a] = 45 from by rw [List.getElem?_eq_getElem hlt] at hc; exact Option.some.inj hc] at hat
  have hsz : P.length + a < x.cps.size := by obtain ⟨h1, _⟩ := Array.getElem?_eq_some_iff.mp hat; exact h1
  have hsub : subAt x (Str.ofString "-") (P.length + a) = true := by
    have e : Str.ofString "-" = ⟨#[45]⟩ := by decide +kernel
    rw [e]
    show (x.cps.extract (P.length + a) (P.length + a + 1) == #[45]) = true
    rw [beq_iff_eq]
    apply Array.ext_getElem?
    intro i
    cases i with
    | zero =>
      have e2 : x.cps[P.length + a] = 45 := by rw [Array.getElem?_eq_getElem hsz] at hat; exact Option.some.inj hat
      rw [Array.getElem?_extract_of_lt (by omega)]
      exact congrArg some e2
    | succ i => simp; omega
  have hone : (Str.ofString "-").length = 1 := by decide +kernel
  unfold find4
  rw [from_nat, from_nat, StrLaws.occ_eq, show min (P.length + b) x.length + 1 - (P.length + a) = (b - a) + 1 by omega, List.range'_succ, List.forIn_cons]
  have e1 : StrLaws.occBody x (Str.ofString "-") (min (P.length + b) x.length) 1 (P.length + a) (#[], P.length + a) = pure (ForInStep.yield (#[P.length + a], P.length + a + (Str.ofString "-").length)) := by
    unfold StrLaws.occBody
    rw [if_pos]
    · rfl
    · refine ⟨⟨⟨Nat.zero_lt_one, Nat.le_refl _⟩, ?_⟩, hsub⟩
      rw [hone]; omega
  rw [e1]
  have k := StrLaws.occ_head_keeps x (Str.ofString "-") (min (P.length + b) x.length) 1 (P.length + a) (List.range' (P.length + a + 1) (b - a)) (#[P.length + a], P.length + a + (Str.ofString "-").length) rfl
  show (match (forIn (List.range' (P.length + a + 1) (b - a)) (#[P.length + a], P.length + a + (Str.ofString "-").length) (StrLaws.occBody x (Str.ofString "-") (min (P.length + b) x.length) 1)).run.fst.toList with | k :: _ => (k : Int) | [] => -1) = _
  generalize (forIn (List.range' (P.length + a + 1) (b - a)) (#[P.length + a], P.length + a + (Str.ofString "-").length) (StrLaws.occBody x (Str.ofString "-") (min (P.length + b) x.length) 1)).run.fst = r at k
  rw [← Array.getElem?_toList] at k
  cases hr : r.toList with
  | nil => rw [hr] at k; cases k
  | cons y l => rw [hr] at k; cases k; rfl
theorem find_none (x y : Str) (a b : Nat) (h : b < a) : find4 x y (a : Int) (b : Int) = -1 := by
  unfold find4
  rw [from_nat, from_nat, StrLaws.occ_eq, show min b x.length + 1 - a = 0 by omega]
  rfl
end
end
section
open PySem PySem.W PyProof.Rows PySem.Calls PySem.Builtin PySem.Builtin.Str
/-! ## signs, one behind the other -/
def cpsOf (ds : List Nat) : List Nat := ds.flatMap fun d => (sgn d).cps.toList
def patOf (ds : List Nat) : Str := ⟨(cpsOf ds).toArray⟩
theorem cps_succ {ds : List Nat} {n : Nat} (h : n < ds.length) : cpsOf (ds.take (n + 1)) = cpsOf (ds.take n) ++ (sgn ds[n]).cps.toList := by
  unfold cpsOf; rw [List.take_succ_eq_append_getElem h, List.flatMap_append]; simp
theorem piece_at {ds : List Nat} {n : Nat} (h : n < ds.length) : Piece (patOf ds) (cpsOf (ds.take n)) (sgn ds[n]).cps.toList := by
  refine ⟨cpsOf (ds.drop (n + 1)), ?_⟩
  show (cpsOf ds) = _
  rw [← List.append_assoc, ← cps_succ h]
  unfold cpsOf
  rw [← List.flatMap_append, List.take_append_drop]
theorem sgn_pos (d : Nat) : 1 ≤ (sgn d).cps.toList.length ∧ (sgn d).cps.toList.length ≤ 5 := by
  unfold sgn; split
  · decide
  · split
    · exact ⟨Nat.le_refl 1, by show 1 ≤ 5; decide⟩
    · exact ⟨by show 1 ≤ 5; decide, Nat.le_refl 5⟩
theorem cps_len (ds : List Nat) : (cpsOf ds).length ≤ 5 * ds.length := by
  induction ds with
  | nil => exact Nat.le_refl _
  | cons d r ih =>
    have h1 := (sgn_pos d).2
    have : cpsOf (d :: r) = (sgn d).cps.toList ++ cpsOf r := rfl
    rw [this, List.length_append, List.length_cons]; omega
theorem cps_all {ds : List Nat} : cpsOf (ds.take ds.length) = cpsOf ds := by rw [List.take_length]
theorem cps_lt {ds : List Nat} {n : Nat} (h : n < ds.length) : (cpsOf (ds.take n)).length < (cpsOf ds).length := by
  have := (piece_at h).len
  have h1 := (sgn_pos ds[n]).1
  have e : (patOf ds).length = (cpsOf ds).length := by show ((cpsOf ds).toArray).size = _; simp
  omega
inductive SgnOf (d : Nat) : Prop
  | any : sgn d = ⟨#[63]⟩ → itm d = ⟨#[46]⟩ → SgnOf d
  | letter : sgn d = ⟨#[97 + d % 8]⟩ → itm d = ⟨#[97 + d % 8]⟩ → SgnOf d
  | range : sgn d = ⟨#[91, 97 + d % 8, 45, 97 + d / 8 % 8, 93]⟩ → (d % 8 ≤ d / 8 % 8 → itm d = bra (d % 8) (d / 8 % 8)) → (¬ d % 8 ≤ d / 8 % 8 → itm d = ⟨#[40, 63, 33, 41]⟩) → SgnOf d
theorem sgnOf (d : Nat) : SgnOf d := by
  by_cases h0 : d / 64 % 4 = 0
  · exact .any (by simp [sgn, h0]) (by simp [itm, h0])
  · by_cases h1 : d / 64 % 4 = 1
    · exact .letter (by simp [sgn, h1, ltr]) (by simp [itm, h1, ltr])
    · exact .range (by simp [sgn, h0, h1, bra]) (fun h => by simp [itm, h0, h1, h]) (fun h => by simp [itm, h0, h1, h])
/-! ## signs' letters told apart -/
theorem ne_ch {a b : Nat} (h : a ≠ b) : ((⟨#[a]⟩ : Str) == ⟨#[b]⟩) = false := by
  rw [beq_eq_false_iff_ne]; intro q; apply h; simpa using q
theorem eStar : Str.ofString "*" = ⟨#[42]⟩ := by decide +kernel
theorem eQm : Str.ofString "?" = ⟨#[63]⟩ := by decide +kernel
theorem eOpen : Str.ofString "[" = ⟨#[91]⟩ := by decide +kernel
theorem eEx : Str.ofString "!" = ⟨#[33]⟩ := by decide +kernel
theorem eClose : Str.ofString "]" = ⟨#[93]⟩ := by decide +kernel
theorem eHat : Str.ofString "^" = ⟨#[94]⟩ := by decide +kernel
section
variable {S X Y : Heap → Prop} {b : Bool}
theorem brNo (h : b = false) (y : Ent S Y) : Ent S (BrH b X Y) := fun hh s => Br.ff h (y hh s)
theorem brYes (h : b = true) (x : Ent S X) : Ent S (BrH b X Y) := fun hh s => Br.tt h (x hh s)
end
section
variable {c : Cf} {A : Around} {H₀ H : Heap} {X : List Addr} {L a : Addr} {m : List (Str × Option Value)} {led led' : List (Addr × OP)} {ims : List (Value × PyData)} {Q : Value → Heap → Prop} {T : Heap → Prop} {xs : List Value} {ts : List Str}
theorem readsAll_strs {h : Heap} : ∀ {vs : List Value} {ts : List Str}, StrsAre vs ts → ∃ as, ReadsAll h vs (ts.map .str) as
  | _, _, .nil => ⟨_, .nil⟩
  | _, _, .cons x t r => let ⟨_, q⟩ := readsAll_strs r; ⟨_, .cons (.str x t) q⟩
/-- a list of texts is not changed again -/
theorem lsStr (r : Rem (a, LsP xs) led led') (hs : StrsAre xs ts) (q : Ent (St H₀ H X L m led' ((.ref a, .list (ts.map .str)) :: ims)) T) : Ent (St H₀ H X L m led ims) T := fun h s => by
  have s := s.perm r.perm
  obtain ⟨o, h1, n, rfl⟩ := s.ld _ (.head _)
  have s' := s.forget (led' := led') (ims' := ims) (List.sublist_cons_self _ _) (fun p hp => hp)
  obtain ⟨as, ra⟩ := readsAll_strs (h := hideAll h (L :: led'.map (·.1))) hs
  have nd := s.nd
  simp only [List.map_cons, List.nodup_cons, List.mem_cons, not_or] at nd
  exact q h (s'.addIm (.list (hideAll_get _ h1 fun q => by
    rcases List.mem_cons.mp q with e | q
    · exact nd.1.1 e.symm
    · exact nd.2.1 q) rfl rfl (by simpa using ra)))
theorem strsAre_snoc : ∀ {vs : List Value} {ts : List Str} {x : Str} {t : Tok}, StrsAre vs ts → StrsAre (vs ++ [.str x t]) (ts ++ [x])
  | _, _, x, t, .nil => .cons x t .nil
  | _, _, x, t, .cons y u r => .cons y u (strsAre_snoc r)
/-- what _translate does -/
def TransQ (c : Cf) (hh : Heap) (M : List Addr) (d : PyData) : Value → Heap → Prop := fun v h' => Kp [c.cp] hh h' ∧ (∃ o, h'.get? c.cp = some o ∧ CodeP o) ∧ ∃ as, Reads (hideAll h' (c.cp :: M)) v d as
theorem endTrans {hh : Heap} {M : List Addr} {d : PyData} {v : Value} (hF : ∀ q ∈ frzM hh M, q ∈ led) (hc : (c.cp, CodeP) ∈ led) (hv : (v, d) ∈ ims) : Ent (St H₀ hh (c.cp :: M) L m led ims) (TransQ c hh M d v) := fun h s => by
  refine ⟨fun b o n e => ?_, s.at hc, ?_⟩
  · by_cases x : b ∈ M
    · obtain ⟨o', h1, h2⟩ := s.ld _ (hF _ (List.mem_map_of_mem x))
      rw [h2] at e; cases e; exact h1
    · exact s.kp b o (fun q => (List.mem_cons.mp q).elim (fun q => n (q ▸ .head _)) x) e
  · obtain ⟨as, r⟩ := s.im _ hv
    refine ⟨as, reads_sub (fun _ _ _ e => e) (fun b hb => .inl (.tail _ ?_)) r⟩
    rcases List.mem_cons.mp hb with rfl | hb
    · exact List.mem_map.mpr ⟨_, hc, rfl⟩
    · exact List.mem_map.mpr ⟨_, hF _ (List.mem_map_of_mem hb), rfl⟩
end
end
section
open PySem PySem.W PyProof.Rows PySem.Calls PySem.Builtin PySem.Builtin.Str PySem.Builtin.Re
structure RF (lo hi : Nat) (it : Str) (zs : List Value) (ts : List Str) (y : Str) : Prop where
  are : StrsAre zs ts
  no : ∀ z ∈ ts, noSub z (Str.ofString "\\") ∧ noSub z (Str.ofString "-")
  len : ts.length ≤ 2
  ok : JoinOk (Str.ofString "-") ts = true
  join : Txt.join (Str.ofString "-") ts = y
  fail : failed ((Sre.forSearch reNat y.cps 1 0 y.cps.size false).runFor reTurnSteps) = true
  short : y.length ≤ 3
  it : (y = ⟨#[]⟩ ∧ it = ⟨#[40, 63, 33, 41]⟩) ∨ (y = ⟨#[97 + lo, 45, 97 + hi]⟩ ∧ it = bra lo hi)
theorem rf_le {lo hi : Nat} {it : Str} {t u : Tok} (h1 : lo < 8) (h2 : hi < 8) (hi' : it = bra lo hi) : RF lo hi it [.str ⟨#[97 + lo]⟩ t, .str ⟨#[97 + hi]⟩ u] [⟨#[97 + lo]⟩, ⟨#[97 + hi]⟩] ⟨#[97 + lo, 45, 97 + hi]⟩ :=
  ⟨.cons _ _ (.cons _ _ .nil), fun z hz => by
    rcases List.mem_cons.mp hz with rfl | hz
    · exact noSub_ltr ⟨lo, h1⟩
    · rw [List.mem_singleton.mp hz]; exact noSub_ltr ⟨hi, h2⟩, Nat.le_refl 2, joinOk_two ⟨lo, h1⟩ ⟨hi, h2⟩, join_two ⟨lo, h1⟩ ⟨hi, h2⟩, re_three ⟨lo, h1⟩ ⟨hi, h2⟩, Nat.le_refl 3, .inr ⟨rfl, hi'⟩⟩
theorem rf_gt {lo hi : Nat} {it : Str} {t : Tok} (hi' : it = ⟨#[40, 63, 33, 41]⟩) : RF lo hi it [.str ⟨#[]⟩ t] [⟨#[]⟩] ⟨#[]⟩ :=
  ⟨.cons _ _ .nil, fun z hz => by rw [List.mem_singleton.mp hz]; exact noSub_nil, by decide, joinOk_one, join_one, re_empty, Nat.zero_le _, .inl ⟨rfl, hi'⟩⟩
section
variable {c : Cf} {A : Around} {e : Env} {H₀ H : Heap} {X : List Addr} {L a : Addr} {m : List (Str × Option Value)} {led : List (Addr × OP)} {ims : List (Value × PyData)} {cl : List (Str × Addr)} {nm : List (Str × NameKind)} {Q : Value → Heap → Prop} {p pos apos : Pos} {x : Expr} {rest : List Expr} {f : Str}
theorem W_mre (B : Bs c H₀) (E : Ev e L cl nm) (hf : f = "_twin_re_1") (H' : Ent (St H₀ H X L m led ims) (W c A (spliced (backTo pos (starEach (x :: rest) e))) (fun vs => W c A (call (.builtin "re.Pattern.sub") (.ref c.pat :: vs)) Q))) (hl : nm.lookup f = some .globalImplicit := by kernel_rfl) (hd : (f == ("__debug__" : Str)) = false := by kernel_rfl)
    (hbase : attributeBase (.Name f p) "sub" e (eval (.Name f p) e) = eval (.Name f p) e := by kernel_rfl)
    (hfew : ((backTo pos (starEach (x :: rest) e)).all (fun x => !x.1) && (backToKw pos (keywordEach [] e)).all (fun x => x.1.isSome)
      && decide ((x :: rest).length + ([] : List Keyword).length + (if ([] : List Keyword).isEmpty then 0 else 1) < 30)) = true := by kernel_rfl)
    (hline : (apos.endLine == pos.line) = true := by kernel_rfl) (he : starEach (x :: rest) e = (false, eval x e) :: starEach rest e := by kernel_rfl) (hp : (backTo pos (starEach rest e)).any (·.1) = false := by kernel_rfl) :
    Ent (St H₀ H X L m led ims) (W c A (eval (.Call (.Attribute (.Name f p) "sub" apos) (x :: rest) [] pos) e) Q) := by
  subst hf
  refine W_meth plainAttrs_re slot_re_sub type_re_sub (W_global (v := .ref c.pat) B E hl (fun _ _ _ N => N.pa) (fun h s => ?_) hd) hbase hfew hline he hp
  obtain ⟨o, fs, h1, h2, h3, _⟩ := (B.pt.keeps s.bs).ob
  exact ⟨fun tk g => ⟨o, h1, h2⟩, fun b q => by cases q; exact ⟨o, h1, h3⟩, H' h s⟩
end
end
section
open PySem PySem.W PyProof.Rows PySem.Calls
set_option maxHeartbeats 4000000
section
def whBody : Stmt → List Stmt
  | .While _ b _ _ => b
  | _ => []
def ifElse : Stmt → List Stmt
  | .If _ _ o _ => o
  | _ => []
def ifBody : Stmt → List Stmt
  | .If _ b _ _ => b
  | _ => []
abbrev pass : Stmt := .Pass default
def brkIf : Stmt := (ifBody ((ifElse ((ifElse ((whBody ((sbody (stm 10)).getD 3 pass)).getD 2 pass)).getD 0 pass)).getD 0 pass)).getD 4 pass
theorem neS {a b : Nat} {s : Str} (e : s = ⟨#[b]⟩) (h : a ≠ b) : ((⟨#[a]⟩ : Str) == s) = false := e ▸ ne_ch h
theorem eqS {a : Nat} {s : Str} (e : s = ⟨#[a]⟩) : ((⟨#[a]⟩ : Str) == s) = true := by rw [e, beq_iff_eq]
theorem neS2 {a b : Nat} {s : Str} (e : s = ⟨#[b]⟩) (h : a ≠ b) : ((⟨#[a]⟩ : Str) != s) = true := by rw [bne, neS e h]; rfl
theorem eqS2 {a : Nat} {s : Str} (e : s = ⟨#[a]⟩) : ((⟨#[a]⟩ : Str) != s) = false := by rw [bne, eqS e]; rfl
variable {c : Cf} {A' : Around} {H₀ hh : Heap} {X : List Addr} {L r b : Addr} {e : Env} {FF : List (Addr × OP)}
theorem neLen (lo hi : Nat) : ((⟨#[97 + lo, 45, 97 + hi]⟩ : Str) == Str.ofString "!") = false := by
  rw [eEx, beq_eq_false_iff_ne]; intro q; have := congrArg (fun s : Str => s.cps.size) q; simp at this
theorem noIn {a : Nat} (h1 : 94 ≠ a) (h2 : 91 ≠ a) : ([Str.ofString "^", Str.ofString "["].any (· == (⟨#[a]⟩ : Str))) = false := by
  rw [eHat, eOpen, List.any_cons, List.any_cons, List.any_nil, ne_ch h1, ne_ch h2]; rfl
theorem W_fstrL {c : Cf} {A : Around} {e : Env} {H₀ H : Heap} {X : List Addr} {L : Addr} {m : List (Str × Option Value)} {led : List (Addr × OP)} {ims : List (Value × PyData)} {cl : List (Str × Addr)} {nm : List (Str × NameKind)} {Q : Value → Heap → Prop} {a d y z : Str} {t : Tok} {k1 k2 : Nat} {p1 p2 p3 p4 p5 : Pos}
    (E : Ev e L cl nm) (hl : nm.lookup z = some .local) (hv : Lo z (.str y t) m) (ha : a.length + d.length ≤ 500) (hy : y.length ≤ 500) (q : ∀ t, Ent (St H₀ H X L m led ims) (Q (.str (a ++ y ++ d) t))) (hd : (z == ("__debug__" : Str)) = false := by kernel_rfl) :
    Ent (St H₀ H X L m led ims) (W c A (eval (.JoinedStr [.Constant (.str a) k1 p1, .FormattedValue (.Name z p2) (-1) none p3, .Constant (.str d) k2 p4] p5) e) Q) :=
  W_fstr3 ha (fv_str (W_local E hl hv (fun h s => ⟨y, t, rfl, by omega, fun t' => ⟨y, t', rfl, hy, fun t'' => q t'' h s⟩⟩) hd))
theorem range_downJ {c : Cf} {A : Around} {H₀ H : Heap} {X : List Addr} {L : Addr} {m : List (Str × Option Value)} {led : List (Addr × OP)} {ims : List (Value × PyData)} {J : Addr → Heap → Prop} {t u v : Tok} {k : Int} (hk : k = 1) (q : ∀ I, Ent (St H₀ H X L m ((I, RI 1 (-1) 1 0) :: led) ims) (J I)) :
    Ent (St H₀ H X L m led ims) (W c A (call (.type "range") [.int k t, .int 0 u, .int (-1) v]) (fun xv => W c A (pyIter xv) (itQ J))) := fun h s =>
  (range_down hk h s).mono fun xv h' z => z.mono fun it h'' ⟨I, e, s⟩ => ⟨I, e, q I h'' s⟩
theorem bracket_ok {x : Str} {P : List Nat} {lo hi p N : Nat} {t0 t1 ti tn tj : Tok} {w1 v3 v4 v5 v6 : Option Value} {ys : List Value} (B : Bs c H₀) (ok' : Ok A' 1) (E : Ev e L [] (sscope (stm 10)).names) (hcd : e.code = .ref c.cc) (h8 : lo < 8) (h9 : hi < 8)
    (pc : Piece x P [91, 97 + lo, 45, 97 + hi, 93]) (hP : P.length = p) (hN : x.length = N) (h45 : N ≤ 45) (hyl : ys.length ≤ 9) :
    Ent (St H₀ hh X L [("pat", some (.str x t0)), ("STAR", some .none), ("QUESTION_MARK", some (.str "." t1)), ("res", some (.ref r)), ("add", some (.ref b)), ("i", some (.int (p + 1 : Nat) ti)), ("n", some (.int N tn)), ("c", w1), ("j", some (.int (p + 4 : Nat) tj)), ("stuff", v3), ("chunks", v4), ("k", v5), ("chunk", v6)] ((b, BApp r) :: (r, LsP ys) :: (c.cp, CodeP) :: FF) []) (W c A' (exec brkIf e) (nextQ fun h => ∃ v, ((lo ≤ hi ∧ v = bra lo hi) ∨ (¬ lo ≤ hi ∧ v = ⟨#[40, 63, 33, 41]⟩)) ∧ ∃ t, ∃ ti, ∃ w3, ∃ w4, ∃ w5, ∃ w6, St H₀ hh X L [("pat", some (.str x t0)), ("STAR", some .none), ("QUESTION_MARK", some (.str "." t1)), ("res", some (.ref r)), ("add", some (.ref b)), ("i", some (.int (p + 5 : Nat) ti)), ("n", some (.int N tn)), ("c", w1), ("j", some (.int (p + 4 : Nat) tj)), ("stuff", w3), ("chunks", w4), ("k", w5), ("chunk", w6)] ((b, BApp r) :: (r, LsP (ys ++ [.str v t])) :: (c.cp, CodeP) :: FF) [] h)) := by
  have hpl := pc.len
  rw [hP, hN] at hpl
  have hpl : p + 5 ≤ N := hpl
  have pat1 : x.cps[P.length + 1]? = some (97 + lo) := pc.at 1 (by show 1 < 5; decide)
  have sl14 : _ = (⟨#[97 + lo, 45, 97 + hi]⟩ : Str) := pc.slice 1 4 (by decide) (by show 4 ≤ 5; decide)
  have sl12 : _ = (⟨#[97 + lo]⟩ : Str) := pc.slice 1 2 (by decide) (by show 2 ≤ 5; decide)
  have sl34 : _ = (⟨#[97 + hi]⟩ : Str) := pc.slice 3 4 (by decide) (by show 4 ≤ 5; decide)
  have fd := pc.find 2 4 (by decide) (by show 4 ≤ 5; decide) rfl
  rw [hP] at pat1 sl14 sl12 sl34 fd
  refine W_If ?_
  walk_at "ws"
  refine brNo (decide_eq_false (by omega)) ?_
  walk_at "ws"
  refine W_SlSS ?_
  walk_at "ws"
  refine s_ss (by omega) fun _ => ?_
  rw [sl14]
  walk_at "ws"
  refine W_If ?_
  walk_at "ws"
  refine x_notIn ?_
  walk_at "ws"
  refine brYes (has_dash ⟨lo, h8⟩ ⟨hi, h9⟩) ?_
  walk_at "ws"
  refine newLs (LsP []) ⟨0, rfl⟩ (by simp) fun a => ?_
  walk_at "ws"
  refine x_sub (p + 1) (97 + lo) rfl (by omega) pat1 fun _ => ?_
  walk_at "ws"
  refine brNo (neS eEx (by omega)) ?_
  walk_at "ws"
  rw [show (((p + 1 : Nat) : Int) + 1) = ((p + 2 : Nat) : Int) from rfl]
  refine W_While (fun kk h => ∃ iv, ∃ kv, ∃ cs, ((kk = 1 ∧ iv = p + 1 ∧ kv = p + 2 ∧ cs = []) ∨ (kk = 0 ∧ iv = p + 3 ∧ kv = p + 5 ∧ ∃ t, cs = [.str ⟨#[97 + lo]⟩ t])) ∧ ∃ ti, ∃ tk, ∃ ts, ∃ v6, St H₀ hh X L [("pat", some (.str x t0)), ("STAR", some .none), ("QUESTION_MARK", some (.str "." t1)), ("res", some (.ref r)), ("add", some (.ref b)), ("i", some (.int iv ti)), ("n", some (.int N tn)), ("c", w1), ("j", some (.int (p + 4 : Nat) tj)), ("stuff", some (.str ⟨#[97 + lo, 45, 97 + hi]⟩ ts)), ("chunks", some (.ref a)), ("k", some (.int kv tk)), ("chunk", v6)] ((a, LsP cs) :: (b, BApp r) :: (r, LsP ys) :: (c.cp, CodeP) :: FF) [] h)
    (fun kk => Ent.ex fun iv => Ent.ex fun kv => Ent.ex fun cs => Ent.imp fun hk => Ent.ex fun ti => Ent.ex fun tk => Ent.ex fun ts => Ent.ex fun v6 => ?_) 1 (fun h s => ⟨p + 1, p + 2, [], .inl ⟨rfl, rfl, rfl, rfl⟩, _, _, _, _, s⟩)
  walk_at "ws"
  rcases hk with ⟨rfl, rfl, rfl, rfl⟩ | ⟨rfl, rfl, rfl, tt, rfl⟩
  · refine W_ms F.slot_str_find F.type_str_find ?_
    walk_at "ws"
    refine isStr ?_
    walk_at "ws"
    refine x_find fun _ => ?_
    rw [fd]
    walk_at "ws"
    refine W_If ?_
    walk_at "ws"
    refine brNo (decide_eq_false (by omega)) ?_
    walk_at "ws"
    refine W_ml slot_list_append type_list_append E (by walk_at "mem") (by walk_at "mem") (fun _ q => ⟨_, q⟩) ?_
    walk_at "ws"
    refine W_SlSS ?_
    walk_at "ws"
    refine s_ss (by omega) fun _ => ?_
    rw [sl12]
    walk_at "ws"
    refine l_append (by walk_at "mem") (by simp) ?_
    walk_at "ws"
    rw [show ((p + 2 : Nat) : Int) + 1 = ((p + 3 : Nat) : Int) from rfl, show ((p + 2 : Nat) : Int) + 3 = ((p + 5 : Nat) : Int) from rfl]
    exact fun h s => ⟨0, by decide, p + 3, p + 5, _, .inr ⟨rfl, rfl, rfl, _, rfl⟩, _, _, _, _, s⟩
  · refine W_ms F.slot_str_find F.type_str_find ?_
    walk_at "ws"
    refine isStr ?_
    walk_at "ws"
    refine x_find fun _ => ?_
    rw [find_none x _ (p + 5) (p + 4) (by omega)]
    walk_at "ws"
    refine W_If ?_
    walk_at "ws"
    refine brYes (by decide) ?_
    walk_at "ws"
    refine W_SlSS ?_
    walk_at "ws"
    refine s_ss (by omega) fun _ => ?_
    rw [sl34]
    walk_at "ws"
    refine W_If ?_
    walk_at "ws"
    refine t_str ?_ (by show ¬ ((1 : Nat) : Int) ≥ 2 ^ 63; decide)
    refine brYes (by rfl) ?_
    walk_at "ws"
    refine W_ml slot_list_append type_list_append E (by walk_at "mem") (by walk_at "mem") (fun _ q => ⟨_, q⟩) ?_
    walk_at "ws"
    refine l_append (by walk_at "mem") (by simp) ?_
    walk_at "ws"
    simp only [List.cons_append, List.nil_append]
    refine W_join (fun h => ∃ zs, ∃ ts, ∃ y, ∃ it, (RF lo hi it zs ts y ∧ ((lo ≤ hi ∧ it = bra lo hi) ∨ (¬ lo ≤ hi ∧ it = ⟨#[40, 63, 33, 41]⟩))) ∧ ∃ tk, ∃ ts, ∃ v5, ∃ v6, St H₀ hh X L [("pat", some (.str x t0)), ("STAR", some .none), ("QUESTION_MARK", some (.str "." t1)), ("res", some (.ref r)), ("add", some (.ref b)), ("i", some (.int (p + 3 : Nat) tk)), ("n", some (.int N tn)), ("c", w1), ("j", some (.int (p + 4 : Nat) tj)), ("stuff", some (.str ⟨#[97 + lo, 45, 97 + hi]⟩ ts)), ("chunks", some (.ref a)), ("k", v5), ("chunk", v6)] ((a, LsP zs) :: (b, BApp r) :: (r, LsP ys) :: (c.cp, CodeP) :: FF) [] h) (W_For 1 (fun I i h => ∃ zs, ∃ it, ((i = 0 ∧ ∃ t, ∃ u, zs = [.str ⟨#[97 + lo]⟩ t, .str ⟨#[97 + hi]⟩ u]) ∨ (i = 1 ∧ (∃ ts, ∃ y, RF lo hi it zs ts y) ∧ ((lo ≤ hi ∧ it = bra lo hi) ∨ (¬ lo ≤ hi ∧ it = ⟨#[40, 63, 33, 41]⟩)))) ∧ ∃ tk, ∃ ts, ∃ v5, ∃ v6, St H₀ hh X L [("pat", some (.str x t0)), ("STAR", some .none), ("QUESTION_MARK", some (.str "." t1)), ("res", some (.ref r)), ("add", some (.ref b)), ("i", some (.int (p + 3 : Nat) tk)), ("n", some (.int N tn)), ("c", w1), ("j", some (.int (p + 4 : Nat) tj)), ("stuff", some (.str ⟨#[97 + lo, 45, 97 + hi]⟩ ts)), ("chunks", some (.ref a)), ("k", v5), ("chunk", v6)] ((I, RI 1 (-1) 1 i) :: (a, LsP zs) :: (b, BApp r) :: (r, LsP ys) :: (c.cp, CodeP) :: FF) [] h) ?_ (fun I i hi1 => ?_) fun I => ?_) ?_
    · refine W_callT "range" B E ?_
      walk_at "ws"
      refine W_callB "len" B E ?_
      walk_at "ws"
      refine l_len (by walk_at "mem") (by simp) fun _ => ?_
      walk_at "ws"
      refine range_downJ (by rfl) fun I h s => ⟨_, ⟨#[]⟩, .inl ⟨rfl, _, _, rfl⟩, _, _, _, _, s⟩
    · obtain rfl : i = 0 := by omega
      refine Ent.ex fun zs => Ent.ex fun it => Ent.imp fun hz => Ent.ex fun tk => Ent.ex fun ts => Ent.ex fun v5 => Ent.ex fun v6 => ?_
      rcases hz with ⟨_, t, u, rfl⟩ | ⟨hz, _⟩
      rotate_left
      · cases hz
      refine f_next (nexts_range ok'.hd 1 (-1) 1) 0 (.int 1) rfl trivial fun v => im_int (.head _) fun tv e => ?_
      subst e
      refine Ent.weak (ims' := []) (List.Sublist.refl _) (fun _ q => absurd q List.not_mem_nil) ?_
      walk_at "ws"
      refine W_If ?_
      walk_at "ws"
      refine ls_sub 0 (by walk_at "mem") rfl (by show 0 < 2; decide) (by show 2 ≤ 1000; decide) fun v hv => ?_
      cases hv
      walk_at "ws"
      refine x_last fun _ => ?_
      walk_at "ws"
      refine ls_sub 1 (by walk_at "mem") rfl (by show 1 < 2; decide) (by show 2 ≤ 1000; decide) fun v hv => ?_
      cases hv
      walk_at "ws"
      refine x_sub 0 (97 + hi) rfl (by decide) rfl fun _ => ?_
      walk_at "ws"
      refine brDec (fun hlt => ?_) (fun hge => ?_)
      · have hgt : ¬ lo ≤ hi := Nat.not_le.mpr ((lt1' _ _).mp hlt)
        walk_at "ws"
        refine ls_sub 0 (by walk_at "mem") rfl (by show 0 < 2; decide) (by show 2 ≤ 1000; decide) fun v hv => ?_
        cases hv
        refine W_SlNS ?_
        walk_at "ws"
        refine s_ns (by show 1 ≤ 1000; decide) fun _ => ?_
        rw [show Txt.slice ⟨#[97 + lo]⟩ none (some (-1)) = ⟨#[]⟩ from sl_init ⟨lo, h8⟩]
        walk_at "ws"
        refine ls_sub 1 (by walk_at "mem") rfl (by show 1 < 2; decide) (by show 2 ≤ 1000; decide) fun v hv => ?_
        cases hv
        refine W_SlSN ?_
        walk_at "ws"
        refine s_sn (by show 1 ≤ 1000; decide) fun _ => ?_
        rw [show Txt.slice ⟨#[97 + hi]⟩ (some 1) none = ⟨#[]⟩ from sl_rest ⟨hi, h9⟩]
        walk_at "ws"
        refine x_add (by decide) fun _ => ?_
        walk_at "ws"
        refine l_set 0 (by walk_at "mem") rfl (by show 0 < 2; decide) (by show 2 ≤ 1000; decide) ?_
        walk_at "ws"
        refine W_DelSub ?_
        walk_at "ws"
        refine l_del 1 (by walk_at "mem") rfl (by show 1 < 2; decide) (by show 2 ≤ 1000; decide) ?_
        walk_at "ws"
        exact fun h s => ⟨_, _, .inr ⟨rfl, ⟨_, _, rf_gt rfl⟩, .inr ⟨hgt, rfl⟩⟩, _, _, _, _, s⟩
      · have hle : lo ≤ hi := Nat.not_lt.mp fun q => hge ((lt1' _ _).mpr q)
        walk_at "ws"
        exact fun h s => ⟨_, _, .inr ⟨rfl, ⟨_, _, rf_le h8 h9 rfl⟩, .inl ⟨hle, rfl⟩⟩, _, _, _, _, s⟩
    · refine Ent.ex fun zs => Ent.ex fun it => Ent.imp fun hz => Ent.ex fun tk => Ent.ex fun ts => Ent.ex fun v5 => Ent.ex fun v6 => ?_
      rcases hz with ⟨hz, _⟩ | ⟨_, ⟨tt, y, hr⟩, hy⟩
      · cases hz
      refine f_done (nexts_range ok'.hd 1 (-1) 1) 1 rfl trivial ?_
      exact fun h s => ⟨zs, tt, y, it, ⟨hr, hy⟩, _, _, _, _, s⟩
    · refine Ent.ex fun zs => Ent.ex fun tt => Ent.ex fun y => Ent.ex fun it => Ent.imp fun hr => Ent.ex fun tk => Ent.ex fun ts => Ent.ex fun v5 => Ent.ex fun v6 => ?_
      obtain ⟨hr, hy⟩ := hr
      have hsh : y.length ≤ 3 := hr.short
      walk_at "ws"
      refine W_joinG B E ok' hcd (by walk_at "mem") (by walk_at "mem") (by walk_at "mem") hr.are hr.no (elt_replace (by kernel_rfl) (by kernel_rfl) (by kernel_rfl) (by kernel_rfl) (by kernel_rfl)) (Nat.le_trans hr.len (by decide)) hr.ok fun _ => ?_
      rw [hr.join]
      walk_at "ws"
      refine W_mre B E rfl ?_
      walk_at "ws"
      refine W_Lambda B E hcd (by walk_at "mem") fun f => ?_
      walk_at "ws"
      refine re_sub B (by walk_at "mem") hr.fail (by omega) fun _ => ?_
      walk_at "ws"
      rw [show ((p + 4 : Nat) : Int) + 1 = ((p + 5 : Nat) : Int) from rfl]
      refine W_If ?_
      walk_at "ws"
      refine t_str ?_ (by omega)
      walk_at "ws"
      rcases hr.it with ⟨rfl, rfl⟩ | ⟨rfl, rfl⟩
      · refine brNo (by decide) ?_
        walk_at "ws"
        refine W_callApp E (by walk_at "mem") (by walk_at "mem") ?_
        walk_at "ws"
        refine app_append (by walk_at "mem") (by walk_at "mem") (by omega) ?_
        walk_at "ws"
        exact nextQ_in fun h s => ⟨_, by rw [eNone]; exact hy, _, _, _, _, _, _, s.forget (.cons _ (.cons _ (.refl _))) fun _ q => q⟩
      · refine brYes (by rfl) ?_
        walk_at "ws"
        refine W_If ?_
        walk_at "ws"
        refine brNo (neLen lo hi) ?_
        walk_at "ws"
        refine W_If ?_
        walk_at "ws"
        refine x_sub 0 (97 + lo) rfl (by decide) rfl fun _ => ?_
        walk_at "ws"
        refine brNo (neS eEx (by omega)) ?_
        walk_at "ws"
        refine W_If ?_
        walk_at "ws"
        refine x_sub 0 (97 + lo) rfl (by decide) rfl fun _ => ?_
        walk_at "ws"
        refine inTup2 ?_
        walk_at "ws"
        refine brNo (noIn (by omega) (by omega)) ?_
        walk_at "ws"
        refine W_callApp E (by walk_at "mem") (by walk_at "mem") ?_
        walk_at "ws"
        refine W_fstrL E (by kernel_rfl) (by walk_at "mem") (by decide) (by show 3 ≤ 500; decide) fun _ => ?_
        walk_at "ws"
        refine app_append (by walk_at "mem") (by walk_at "mem") (by omega) ?_
        walk_at "ws"
        exact nextQ_in fun h s => ⟨_, by rw [bra_in ⟨lo, h8⟩ ⟨hi, h9⟩]; exact hy, _, _, _, _, _, _, s.forget (.cons _ (.cons _ (.refl _))) fun _ q => q⟩
end

end
section
open PySem PySem.W PyProof.Rows PySem.Calls
set_option maxHeartbeats 4000000
theorem isTrueQ' {S T : Heap → Prop} {b : Bool} (h : b = true) (x : Ent S T) : Ent S (trueQ T b) := fun hh s => ⟨h, x hh s⟩
section
variable {c : Cf} {A : Around} {H₀ hh : Heap} {M : List Addr}
def TJ (c : Cf) (H₀ hh : Heap) (M : List Addr) (L r b : Addr) (t0 t1 : Tok) (ds : List Nat) (k : Nat) : Heap → Prop := fun h => ∃ n, ∃ ys, ∃ ti, ∃ tn, ∃ v1, ∃ v2, ∃ v3, ∃ v4, ∃ v5, ∃ v6, (k = ds.length - n ∧ n ≤ ds.length ∧ StrsAre ys ((ds.take n).map itm)) ∧
  St H₀ hh (c.cp :: M) L [("pat", some (.str (patOf ds) t0)), ("STAR", some .none), ("QUESTION_MARK", some (.str "." t1)), ("res", some (.ref r)), ("add", some (.ref b)), ("i", some (.int (cpsOf (ds.take n)).length ti)), ("n", some (.int (cpsOf ds).length tn)), ("c", v1), ("j", v2), ("stuff", v3), ("chunks", v4), ("k", v5), ("chunk", v6)]
    ((b, BApp r) :: (r, LsP ys) :: (c.cp, CodeP) :: frzM hh M) [] h
theorem translate_ok {ds : List Nat} {t0 t1 : Tok} (B : Bs c H₀) (ok : Ok A 2) (O : Old H₀ hh M) (hcp : ∃ o, hh.get? c.cp = some o ∧ CodeP o) (hcm : c.cp ∉ M) (hn : ds.length ≤ 9) :
    W c A (call (.ref (c.fa 10)) [.str (patOf ds) t0, .none, .str "." t1]) (TransQ c hh M (.list (ds.map fun d => .str (itm d)))) hh := by
  have hlen : (patOf ds).length = (cpsOf ds).length := by show ((cpsOf ds).toArray).size = _; simp
  have h45 : (cpsOf ds).length ≤ 45 := Nat.le_trans (cps_len ds) (by omega)
  refine W_defN (j := 1) (led := (c.cp, CodeP) :: frzM hh M) (ims := []) 10 ["pat", "STAR", "QUESTION_MARK"] ["res", "add", "i", "n", "c", "j", "stuff", "chunks", "k", "chunk"] B ok O.le (by decide) (by kernel_rfl) (by intros; kernel_rfl) (by rfl) (by kernel_rfl) (fun p hp => ?_) ?_ ?_ (fun _ q => absurd q List.not_mem_nil) fun e L A' ok' E hcd => ?_
  · rcases List.mem_cons.mp hp with rfl | hp
    · exact hcp
    · obtain ⟨b, hb, rfl⟩ := List.mem_map.mp hp
      obtain ⟨o, h1⟩ := O.at_ b hb; exact ⟨o, h1, h1⟩
  · rw [List.map_cons, frzM_keys]
    intro b hb
    rcases List.mem_cons.mp hb with rfl | hb
    · exact B.cp
    · exact O.no b hb
  · rw [List.map_cons, frzM_keys]; exact List.nodup_cons.mpr ⟨hcm, O.nd⟩
  have hcd := hcd rfl
  rw [List.map_cons, frzM_keys]
  simp only [mk, bnd, List.zip_cons_cons, List.zip_nil_right, List.map_cons, List.map_nil, List.cons_append, List.nil_append]
  refine W_cons ?_
  walk_at "ws"
  refine newLs (LsP []) ⟨0, rfl⟩ (by simp) fun r => ?_
  walk_at "ws"
  refine W_bound E (by walk_at "mem") (by walk_at "mem") fun b => ?_
  walk_at "ws"
  refine W_AssignSwap ok'.hd (swapped_two E (by kernel_rfl) (by kernel_rfl) (by kernel_rfl) (by kernel_rfl) (by kernel_rfl) (by kernel_rfl) (by kernel_rfl)) ?_
  walk_at "ws"
  refine W_callB "len" B E ?_
  walk_at "ws"
  refine x_len (by omega) fun _ => ?_
  rw [hlen]
  walk_at "ws"
  refine newSwap ?_
  walk_at "ws"
  refine W_While (TJ c H₀ hh M L r b t0 t1 ds) (fun k => Ent.ex fun n => Ent.ex fun ys => Ent.ex fun ti => Ent.ex fun tn => Ent.ex fun v1 => Ent.ex fun v2 => Ent.ex fun v3 => Ent.ex fun v4 => Ent.ex fun v5 => Ent.ex fun v6 => Ent.imp fun hy => ?_) ds.length (fun h s => ⟨0, [], _, _, _, _, _, _, _, _, ⟨rfl, Nat.zero_le _, .nil⟩, s⟩)
  obtain ⟨rfl, hle, hys⟩ := hy
  walk_at "ws"
  refine brDec (fun hlt => ?_) (fun hge => ?_)
  · have hnl : n < ds.length := by
      rcases Nat.lt_or_eq_of_le hle with h | h
      · exact h
      · subst h; rw [cps_all] at hlt; omega
    have pc := piece_at hnl
    have hup : cpsOf (ds.take (n + 1)) = _ := cps_succ hnl
    have hys' : ∀ t, StrsAre (ys ++ [.str (itm ds[n]) t]) ((ds.take (n + 1)).map itm) := fun t => by rw [List.take_succ_eq_append_getElem hnl, List.map_append]; exact strsAre_snoc hys
    have hyl : ys.length ≤ 9 := by rw [hys.length, List.length_map, List.length_take]; omega
    have fin : ∀ (v : Str) (t ti' : Tok) (w1 w2 w3 w4 w5 w6 : Option Value) (i : Int), itm ds[n] = v → i = ((cpsOf (ds.take (n + 1))).length : Nat) →
        Ent (St H₀ hh (c.cp :: M) L [("pat", some (.str (patOf ds) t0)), ("STAR", some .none), ("QUESTION_MARK", some (.str "." t1)), ("res", some (.ref r)), ("add", some (.ref b)), ("i", some (.int i ti')), ("n", some (.int (cpsOf ds).length tn)), ("c", w1), ("j", w2), ("stuff", w3), ("chunks", w4), ("k", w5), ("chunk", w6)]
          ((b, BApp r) :: (r, LsP (ys ++ [.str v t])) :: (c.cp, CodeP) :: frzM hh M) []) (fun h => ∃ k, k < ds.length - n ∧ TJ c H₀ hh M L r b t0 t1 ds k h) := by
      intro v t ti' w1 w2 w3 w4 w5 w6 i hv hi h s
      subst hv hi
      exact ⟨ds.length - (n + 1), by omega, n + 1, _, _, _, _, _, _, _, _, _, ⟨rfl, hnl, hys' t⟩, s⟩
    rcases sgnOf ds[n] with ⟨e1, e2⟩ | ⟨e1, e2⟩ | ⟨e1, e2, e3⟩
    · rw [e1] at pc hup
      walk_at "ws"
      refine x_sub (cpsOf (ds.take n)).length 63 rfl (by omega) (pc.at 0 (by decide)) fun _ => ?_
      walk_at "ws"
      refine W_If ?_
      walk_at "ws"
      refine brNo (neS eStar (by decide)) ?_
      walk_at "ws"
      refine W_If ?_
      walk_at "ws"
      refine brYes (eqS eQm) ?_
      walk_at "ws"
      refine W_callApp E (by walk_at "mem") (by walk_at "mem") ?_
      walk_at "ws"
      refine app_append (by walk_at "mem") (by walk_at "mem") (by omega) ?_
      walk_at "ws"
      refine fin _ _ _ _ _ _ _ _ _ _ (by rw [e2, eDot]) (by rw [hup, List.length_append]; rfl)
    · have h8 : ds[n] % 8 < 8 := Nat.mod_lt _ (by decide)
      rw [e1] at pc hup
      walk_at "ws"
      refine x_sub (cpsOf (ds.take n)).length (97 + ds[n] % 8) rfl (by omega) (pc.at 0 Nat.one_pos) fun _ => ?_
      walk_at "ws"
      refine W_If ?_
      walk_at "ws"
      refine brNo (neS eStar (by omega)) ?_
      walk_at "ws"
      refine W_If ?_
      walk_at "ws"
      refine brNo (neS eQm (by omega)) ?_
      walk_at "ws"
      refine W_If ?_
      walk_at "ws"
      refine brNo (neS eOpen (by omega)) ?_
      walk_at "ws"
      refine W_callApp E (by walk_at "mem") (by walk_at "mem") ?_
      walk_at "ws"
      refine W_callF 8 B E ?_
      walk_at "ws"
      refine E_pure _ (fun h s => escape_ok B ok' s.bs (by omega) (by omega)) fun v hv => ?_
      obtain ⟨_, rfl⟩ := hv
      walk_at "ws"
      refine app_append (by walk_at "mem") (by walk_at "mem") (by omega) ?_
      walk_at "ws"
      refine fin _ _ _ _ _ _ _ _ _ _ e2 (by rw [hup, List.length_append]; rfl)
    · have h8 : ds[n] % 8 < 8 := Nat.mod_lt _ (by decide)
      have h9 : ds[n] / 8 % 8 < 8 := Nat.mod_lt _ (by decide)
      rw [e1] at pc hup
      generalize ds[n] % 8 = lo at *
      generalize ds[n] / 8 % 8 = hi at *
      have hpl := pc.len
      have hup' := congrArg List.length hup
      rw [List.length_append] at hup'
      have pat0 := pc.at 0 (by show 0 < 5; decide)
      have pat1 := pc.at 1 (by show 1 < 5; decide)
      have pat2 := pc.at 2 (by show 2 < 5; decide)
      have pat3 := pc.at 3 (by show 3 < 5; decide)
      have pat4 := pc.at 4 (by show 4 < 5; decide)
      rw [show (⟨#[91, 97 + lo, 45, 97 + hi, 93]⟩ : Str).cps.toList.length = 5 from rfl] at hpl hup'
      rw [hlen] at hpl
      generalize hP : (cpsOf (ds.take n)).length = p at *
      walk_at "ws"
      refine x_sub p 91 rfl (by omega) pat0 fun w1 => ?_
      walk_at "ws"
      refine W_If ?_
      walk_at "ws"
      refine brNo (neS eStar (by decide)) ?_
      walk_at "ws"
      refine W_If ?_
      walk_at "ws"
      refine brNo (neS eQm (by decide)) ?_
      walk_at "ws"
      refine W_If ?_
      walk_at "ws"
      refine brYes (eqS eOpen) ?_
      rw [show ((p : Int) + 1) = ((p + 1 : Nat) : Int) from rfl]
      walk_at "ws"
      refine W_If ?_
      walk_at "ws"
      refine brYes (decide_eq_true (by omega)) ?_
      walk_at "ws"
      refine x_sub (p + 1) (97 + lo) rfl (by omega) pat1 fun _ => ?_
      walk_at "ws"
      refine brNo (neS eEx (by omega)) ?_
      walk_at "ws"
      refine W_If ?_
      walk_at "ws"
      refine brYes (decide_eq_true (by omega)) ?_
      walk_at "ws"
      refine x_sub (p + 1) (97 + lo) rfl (by omega) pat1 fun _ => ?_
      walk_at "ws"
      refine brNo (neS eClose (by omega)) ?_
      walk_at "ws"
      refine W_While (fun k h => k ≤ 3 ∧ ∃ w0, ∃ w1, ∃ tj, St H₀ hh (c.cp :: M) L [("pat", some (.str (patOf ds) t0)), ("STAR", some .none), ("QUESTION_MARK", some (.str "." t1)), ("res", some (.ref r)), ("add", some (.ref b)), ("i", some (.int (p + 1 : Nat) w0)), ("n", some (.int (cpsOf ds).length tn)), ("c", some (.str ⟨#[91]⟩ w1)), ("j", some (.int (p + (4 - k) : Nat) tj)), ("stuff", v3), ("chunks", v4), ("k", v5), ("chunk", v6)] ((b, BApp r) :: (r, LsP ys) :: (c.cp, CodeP) :: frzM hh M) [] h) (fun k => Ent.imp fun hk => Ent.ex fun w0 => Ent.ex fun w1 => Ent.ex fun tj => ?_) 3 (fun h s => ⟨Nat.le_refl 3, _, _, _, s⟩)
      walk_at "ws"
      refine brYes (decide_eq_true (by omega)) ?_
      walk_at "ws"
      have stepJ : ∀ k, 1 ≤ k → k ≤ 3 → ((p + (4 - k) : Nat) : Int) + 1 = ((p + (4 - (k - 1)) : Nat) : Int) := fun k h1 h2 => by omega
      match k, hk with
      | 3, _ =>
        refine x_sub (p + 1) (97 + lo) rfl (by omega) pat1 fun _ => ?_
        walk_at "ws"
        refine brYes (neS2 eClose (by omega)) ?_
        walk_at "ws"
        rw [stepJ 3 (by decide) (by decide)]
        exact fun h s => ⟨2, by decide, by decide, _, _, _, s⟩
      | 2, _ =>
        refine x_sub (p + 2) 45 rfl (by omega) pat2 fun _ => ?_
        walk_at "ws"
        refine brYes (neS2 eClose (by decide)) ?_
        walk_at "ws"
        rw [stepJ 2 (by decide) (by decide)]
        exact fun h s => ⟨1, by decide, by decide, _, _, _, s⟩
      | 1, _ =>
        refine x_sub (p + 3) (97 + hi) rfl (by omega) pat3 fun _ => ?_
        walk_at "ws"
        refine brYes (neS2 eClose (by omega)) ?_
        walk_at "ws"
        rw [stepJ 1 (by decide) (by decide)]
        exact fun h s => ⟨0, by decide, by decide, _, _, _, s⟩
      | 0, _ =>
        refine x_sub (p + 4) 93 rfl (by omega) pat4 fun _ => ?_
        walk_at "ws"
        refine brNo (eqS2 eClose) ?_
        walk_at "ws"
        refine W_then _ (bracket_ok B ok' E hcd h8 h9 pc hP hlen h45 hyl) ?_
        refine Ent.ex fun v => Ent.imp fun hv => Ent.ex fun t => Ent.ex fun ti => Ent.ex fun w3 => Ent.ex fun w4 => Ent.ex fun w5 => Ent.ex fun w6 => ?_
        walk_at "ws"
        refine fin _ _ _ _ _ _ _ _ _ _ ?_ (by rw [hup'])
        rcases hv with ⟨hv, rfl⟩ | ⟨hv, rfl⟩
        · exact e2 hv
        · exact e3 hv
  · have hnl : n = ds.length := by
      rcases Nat.lt_or_eq_of_le hle with h | h
      · exact absurd (Int.ofNat_lt.mpr (cps_lt h)) hge
      · exact h
    subst hnl
    rw [List.take_length] at hys
    walk_at "ws"
    rw [cps_all]
    refine isTrueQ' (by simp) ?_
    walk_at "ws"
    refine lsStr (by walk_at "mem") hys ?_
    rw [List.map_map]
    exact endTrans (fun q hq => .tail _ (.tail _ hq)) (.tail _ (.head _)) (.head _)
end

end
section
open PySem PySem.W PyProof.Rows PySem.Calls
/-! ## what the law builds, plainly -/
def dsOf (ns : List Int) : List Nat := [161, 69, 150, 187] ++ (ns.take 5).map fun x => (x.emod 256).toNat
abbrev up (ds : List Nat) : List Int := ds.map fun (k : Nat) => (k : Int)
theorem dsOf_len (ns : List Int) : (dsOf ns).length ≤ 9 := by simp [dsOf]; omega
theorem drawn_eq (ns : List Int) : [161, 69, 150, 187] ++ (ns.take 5).map (fun x => x.emod 256) = up (dsOf ns) := by
  unfold dsOf up
  rw [List.map_append, List.map_map]
  congr 1
  apply List.map_congr_left
  intro x _
  show x.emod 256 = ((x.emod 256).toNat : Int)
  have : 0 ≤ x.emod 256 := Int.emod_nonneg x (by decide)
  omega
def rng (d : Nat) : Option (Nat × Nat) := if d / 64 % 4 = 0 then some (0, 7) else if d / 64 % 4 = 1 then some (d % 8, d % 8) else if d % 8 ≤ d / 8 % 8 then some (d % 8, d / 8 % 8) else none
def mI (d : Nat) : List Int := match rng d with
  | some p => rgI p.1 p.2
  | none => []
theorem k8_rg {a b : Nat} : k8 (fun k => decide (a ≤ k) && decide (k ≤ b)) = iDat (rgI a b) := by
  unfold rgI
  show PyData.list _ = .list (List.map _ (List.map _ _))
  rw [List.map_map]; rfl
theorem mnt_eq (d : Nat) : mnt d = iDat (mI d) := by
  have h8 : d % 8 < 8 := Nat.mod_lt _ (by decide)
  unfold mnt mI rng
  by_cases h0 : d / 64 % 4 = 0
  · rw [if_pos h0, if_pos h0]; rfl
  · rw [if_neg h0, if_neg h0]
    by_cases h1 : d / 64 % 4 = 1
    · rw [if_pos h1, if_pos h1]
      generalize d % 8 = a at h8
      match a, h8 with
      | 0, _ | 1, _ | 2, _ | 3, _ | 4, _ | 5, _ | 6, _ | 7, _ => rfl
    · rw [if_neg h1, if_neg h1]
      by_cases h2 : d % 8 ≤ d / 8 % 8
      · rw [if_pos h2]; exact k8_rg
      · rw [if_neg h2, k8_rg]
        show iDat _ = iDat []
        congr 1
        unfold rgI
        rw [List.filter_eq_nil_iff.mpr]
        · rfl
        · intro k _; simp; omega
theorem rng_ok {d : Nat} {p : Nat × Nat} (h : rng d = some p) : p.1 ≤ p.2 ∧ p.2 < 8 := by
  have h8 : d % 8 < 8 := Nat.mod_lt _ (by decide)
  have h9 : d / 8 % 8 < 8 := Nat.mod_lt _ (by decide)
  unfold rng at h
  split at h
  · cases h; decide
  · split at h
    · cases h; exact ⟨Nat.le_refl _, h8⟩
    · split at h
      · rename_i h2; cases h; exact ⟨h2, h9⟩
      · cases h
def psOf (ds : List Nat) : List (Nat × Nat) := ds.filterMap rng
theorem psOf_ok (ds : List Nat) : ∀ p ∈ psOf ds, p.1 ≤ p.2 ∧ p.2 < 8 := fun p hp => by
  obtain ⟨d, _, h⟩ := List.mem_filterMap.mp hp
  exact rng_ok h
theorem psOf_len (ds : List Nat) : (psOf ds).length ≤ ds.length := List.length_filterMap_le _ _
def neD : PyData → Bool
  | .list l => !l.isEmpty
  | _ => false
theorem neD_i (ns : List Int) : neD (iDat ns) = !ns.isEmpty := by cases ns <;> rfl
theorem rows_eq : ∀ ds : List Nat, (ds.map mnt).filter neD = (rgRows (psOf ds)).map iDat
  | [] => rfl
  | d :: r => by
    have ih := rows_eq r
    rw [List.map_cons, List.filter_cons, mnt_eq, neD_i]
    unfold mI psOf
    cases h : rng d with
    | none => rw [List.filterMap_cons_none h]; simpa [psOf] using ih
    | some p =>
      rw [List.filterMap_cons_some h]
      obtain ⟨q1, q2⟩ := rng_ok h
      have g := (rg_at q1 q2).2.2.1
      have : (rgI p.1 p.2).isEmpty = false := by cases hl : rgI p.1 p.2 with | nil => rw [hl] at g; cases g | cons _ _ => rfl
      simp only [this, Bool.not_false, if_true, List.map_cons]
      rw [ih]; rfl
def endsD : PyData → PyData
  | .list l => .tuple [l.getD 0 (.int 0), l.getD (l.length - 1) (.int 0)]
  | d => d
theorem gd_int (ns : List Int) (j : Nat) : (ns.map PyData.int).getD j (.int 0) = .int (ns.getD j 0) := by
  simp only [List.getD_eq_getElem?_getD, List.getElem?_map]
  cases ns[j]? <;> rfl
theorem endsD_i (ns : List Int) : endsD (iDat ns) = .tuple [.int (ns.getD 0 0), .int (ns.getD (ns.length - 1) 0)] := by
  show PyData.tuple _ = _
  rw [List.length_map, gd_int, gd_int]
theorem ends_eq {ps : List (Nat × Nat)} (hp : ∀ p ∈ ps, p.1 ≤ p.2 ∧ p.2 < 8) : (((rgRows ps).map iDat).filter fun _ => true).map endsD = (rgEnds ps).map fun r => .tuple [.int r.1, .int r.2] := by
  rw [noTest, List.map_map, List.map_map, List.map_map]
  apply List.map_congr_left
  intro p hq
  obtain ⟨q1, q2⟩ := hp p hq
  obtain ⟨g1, g2, _⟩ := rg_at q1 q2
  show endsD (iDat (rgI p.1 p.2)) = _
  rw [endsD_i, g1, g2]; rfl
def sgD : PyData → PyData
  | .int i => .str (sgn i.toNat)
  | d => d
theorem sgD_eq (ds : List Nat) : (((up ds).map PyData.int).filter fun _ => true).map sgD = (ds.map sgn).map .str := by
  rw [noTest]; simp only [up, List.map_map]; apply List.map_congr_left; intro d _; rfl
def mnD : PyData → PyData
  | .int i => mnt i.toNat
  | d => d
theorem mnD_eq (ds : List Nat) : (((up ds).map PyData.int).filter fun _ => true).map mnD = ds.map mnt := by
  rw [noTest]; simp only [up, List.map_map]; apply List.map_congr_left; intro d _; rfl
def ltD : PyData → PyData
  | .str s => if s = ⟨#[40, 63, 33, 41]⟩ then .list [] else if s = ⟨#[46]⟩ then .list [.int 0, .int 1, .int 2, .int 3, .int 4, .int 5, .int 6, .int 7] else if s.length = 1 then k8 (fun k => ltr k == s)
    else k8 fun k => decide (s.cps.getD 1 0 ≤ 97 + k) && decide (97 + k ≤ s.cps.getD 3 0)
  | d => d
theorem ltD_itm (d : Nat) : ltD (.str (itm d)) = mnt d := by
  rcases itmOf d with ⟨e1, e2⟩ | ⟨e1, e2⟩ | ⟨e1, e2⟩ | ⟨e1, e2⟩ <;> rw [e1, e2]
  · rfl
  · rfl
  · unfold ltD
    have h1 : ltr (d % 8) ≠ ⟨#[40, 63, 33, 41]⟩ := fun q => by have := congrArg (fun s : Str => s.cps.size) q; simp [ltr] at this
    have h2 : ltr (d % 8) ≠ ⟨#[46]⟩ := fun q => by have := ltr_dot (d % 8); rw [q] at this; simp at this
    dsimp only
    rw [if_neg h1, if_neg h2, if_pos (ltr_len _)]
  · unfold ltD
    have h1 : bra (d % 8) (d / 8 % 8) ≠ ⟨#[40, 63, 33, 41]⟩ := fun q => by have := congrArg (fun s : Str => s.cps.size) q; simp [bra] at this
    have h2 : bra (d % 8) (d / 8 % 8) ≠ ⟨#[46]⟩ := fun q => by have := congrArg (fun s : Str => s.cps.size) q; simp [bra] at this
    dsimp only
    rw [if_neg h1, if_neg h2, if_neg (by rw [bra_len]; decide)]
    show PyData.list _ = .list _
    congr 2
    congr 1
    funext k
    show (decide (97 + d % 8 ≤ 97 + k) && decide (97 + k ≤ 97 + d / 8 % 8)) = _
    congr 1 <;> rw [decide_eq_decide] <;> omega
theorem ltD_eq (ds : List Nat) : ((ds.map fun d => PyData.str (itm d)).filter fun _ => true).map ltD = ds.map mnt := by
  rw [noTest, List.map_map]; apply List.map_congr_left; intro d _; exact ltD_itm d
theorem canLay_i (ns : List Int) : (iDat ns).canLay0 = true := by
  show PyData.canLayAll0 (ns.map .int) = true
  induction ns with
  | nil => rfl
  | cons x r ih => exact ih
end
section
open PySem PySem.W PyProof.Rows PySem.Calls PySem.Builtin PySem.Builtin.Str
theorem join_empty : ∀ ts : List Str, Txt.join Str.empty ts = ⟨(ts.flatMap fun s => s.cps.toList).toArray⟩ := by
  have key : ∀ (l : List Str) (acc : Array Nat), l.foldl (fun acc p => acc ++ Str.empty.cps ++ p.cps) acc = acc ++ (l.flatMap fun s => s.cps.toList).toArray := by
    intro l
    induction l with
    | nil => intro acc; simp
    | cons x r ih =>
      intro acc
      rw [List.foldl_cons, ih]
      apply Array.toList_inj.mp
      simp [Str.empty]
  intro ts
  cases ts with
  | nil => rfl
  | cons x r =>
    show (⟨(r.foldl (fun acc p => acc ++ Str.empty.cps ++ p.cps) x.cps)⟩ : Str) = _
    rw [key]
    congr 1
    apply Array.toList_inj.mp
    simp
theorem join_signs (ds : List Nat) : Txt.join (Str.ofString "") (ds.map sgn) = patOf ds := by
  have e : Str.ofString "" = Str.empty := by decide +kernel
  rw [e, join_empty]
  unfold patOf cpsOf
  rw [List.flatMap_map]
theorem sum_signs : ∀ ds : List Nat, ((ds.map sgn).map (·.length)).sum ≤ 5 * ds.length
  | [] => Nat.le_refl _
  | d :: r => by
    have h1 := (sgn_pos d).2
    have h2 : (sgn d).length = (sgn d).cps.toList.length := by show (sgn d).cps.size = _; simp
    have := sum_signs r
    simp only [List.map_cons, List.sum_cons, List.length_cons]
    omega
section
variable {c : Cf} {A : Around} {e : Env} {S : Heap → Prop} {pos p : Pos} {Q : Value → Heap → Prop}
  {H₀ H : Heap} {X : List Addr} {L a b l : Addr} {m : List (Str × Option Value)} {led led' : List (Addr × OP)} {ims : List (Value × PyData)} {cl : List (Str × Addr)} {nm : List (Str × NameKind)} {xs : List Value} {ns : List Int}
theorem ls_to {ve se : Expr} {k : Int} {t : Tok} (r : SrcI led ims l ns) (hk : 0 ≤ k) (hz : ns.length ≤ 1000) (q : ∀ a, Ent (St H₀ H X L m ((a, IL (ns.take k.toNat)) :: led) ims) (Q (.ref a)))
    (hs : ∀ a, subscripted se false (.ref l) (.ref a) = operate [.ref a, .ref l] (getItem (.ref l) (.ref a)) := by intros; kernel_rfl) (ht : ∀ r, letTemporaryGo ve (.ref l) r = pure () := by intros; kernel_rfl) :
    Ent (St H₀ H X L m led ims) (NewSl (fun kv => W c A (subscriptTail ve se (.ref l) kv) Q) .none (.int k t)) := fun h s => by
  obtain ⟨vs, hl, hi⟩ := r.at_ s
  refine ⟨fun tk g hg => slice_listK (s := Sh c h g tk) (lo := none) (hi := some k) hl (by first | exact .none | exact rfl | trivial) (by first | exact .int _ _ | exact rfl | trivial) (Post.mk' hg (q _ _ ?_)) (hs _) ht (by rw [List.size_toArray, hi.length]; exact sz hz)⟩
  have s2 := s.grow (h' := h.push { cls := .type "slice", data := .fields #[.none, .int k t, .none] }) fun b o e => Heap.get?_push_of_some _ e
  have e1 : (h.push { cls := .type "slice", data := .fields #[.none, .int k t, .none] }).objs.size = h.objs.size + 1 := Heap.size_push ..
  have := s2.pushLed (o := { cls := .type "list", data := .seq (slicePick vs.toArray none (some k) none) }) (P := IL (ns.take k.toNat)) rfl ⟨(slicePick vs.toArray none (some k) none).toList, 0, slice_ints_uptoW hi hk, by simp [W.listOf]⟩
  rw [e1] at this
  exact this
theorem strs_of : ∀ {h : Heap} {vs : List Value} {ts : List Str} {as : List Addr}, ReadsAll h vs (ts.map .str) as → StrsAre vs ts
  | _, _, [], _, .nil => .nil
  | _, _, x :: ts, _, .cons (.str _ t) r => .cons x t (strs_of r)
/-- the signs, joined -/
theorem e_join0 {ds : List Nat} {t : Tok} (hm : (.ref a, .list ((ds.map sgn).map .str)) ∈ ims) (hn : ds.length ≤ 9) (q : ∀ t, Ent (St H₀ H X L m led ims) (Q (.str (patOf ds) t))) : Ent (St H₀ H X L m led ims) (W c A (call (.builtin "str.join") [.str (Str.ofString "") t, .ref a]) Q) := fun h s => by
  obtain ⟨as, r⟩ := s.read hm
  obtain ⟨o, vs, n, bs, h1, h2, h3, h4⟩ := reads_list r
  refine ⟨fun tk g hg => join_list (s := Sh c h g tk) (ys := ds.map sgn) ⟨o, h1, h2, n, h3⟩ (strs_of h4) ?_ fun t' k => ?_⟩
  · have h1 := sum_signs ds
    have h2 : (Str.ofString "").length = 0 := by decide +kernel
    rw [h2, Nat.mul_zero]; omega
  · rw [join_signs]; exact Post.mk' hg (q _ h s)
/-- the call of _translate -/
theorem E_trans {t : Sem Value} {d : PyData} (C : ∀ h, St H₀ H X L m [(c.cp, CodeP)] ims h → W c A t (TransQ c h [L] d) h) (q : ∀ v, Ent (St H₀ H X L m [(c.cp, CodeP)] ((v, d) :: ims)) (Q v)) : Ent (St H₀ H X L m [(c.cp, CodeP)] ims) (W c A t Q) := fun h s =>
  (C h s).mono fun v h' ⟨k, o, as, r⟩ => q v h' ((s.upd .head k o).addIm (reads_sub (fun _ _ _ e => e) (fun b hb => .inl (by
    rcases List.mem_cons.mp hb with e | hb
    · exact e ▸ .tail _ (.head _)
    · rw [List.mem_singleton.mp (show b ∈ [c.cp] from hb)]; exact .head _)) r))
theorem Old.sub {h : Heap} (O : Old H₀ h [L, a]) : Old H₀ h [L] := ⟨O.le, fun b hb => O.at_ b (by rw [List.mem_singleton.mp hb]; exact .head _), fun b hb => O.no b (by rw [List.mem_singleton.mp hb]; exact .head _), by simp⟩
/-- two values that read as the same -/
theorem e_eq {v w : Value} {d : PyData} (hv : (v, d) ∈ ims) (hw : (w, d) ∈ ims) (hc : d.canLay0 = true) (hu : A.units + 64 < cLine) (hd : d.depth ≤ 64) (q : Ent (St H₀ H X L m led ims) (Q (.bool true))) : Ent (St H₀ H X L m led ims) (W c A (compareOp .Eq v w) Q) := fun h s => by
  obtain ⟨as, ra⟩ := s.read hv
  obtain ⟨bs, rb⟩ := s.read hw
  exact ⟨fun tk g hg => PySem.SeqAt.compareEq_reads (s := Sh c h g tk) ra rb hc hc (by rw [Nat.min_self]; omega) (by rw [PySem.SeqAt.eqv_refl d hc]; exact Post.mk' hg (q h s))⟩
end
end
section
open PySem PySem.W PyProof.Rows PySem.Calls PySem.Builtin PySem.Builtin.Str
theorem canLay_row (w e : List Int) : (cRow w e).canLay0 = true := by
  show (true && (true && (true && ((k8 _).canLay0 && ((iDat _).canLay0 && true))))) = true
  rw [canLay_i]
  have : ∀ l : List Nat, PyData.canLayAll0 (l.map fun k => PyData.int (k : Nat)) = true := fun l => by
    induction l with
    | nil => rfl
    | cons x r ih => exact ih
  rw [show (k8 fun k => w.getD k 0 == minL w).canLay0 = true from this _]
  rfl
theorem canLay_told (rws : List (List Int)) (n : Nat) : (PyData.list (cTold rws n)).canLay0 = true := by
  show PyData.canLayAll0 (List.map _ (List.range n)) = true
  induction (List.range n) with
  | nil => rfl
  | cons x r ih =>
    show ((cRow _ _).canLay0 && PyData.canLayAll0 (r.map _)) = true
    rw [canLay_row, ih]; rfl
theorem canLay_mnt (ds : List Nat) : (PyData.list (ds.map mnt)).canLay0 = true := by
  show PyData.canLayAll0 (ds.map mnt) = true
  induction ds with
  | nil => rfl
  | cons x r ih =>
    show ((mnt x).canLay0 && PyData.canLayAll0 (r.map mnt)) = true
    rw [mnt_eq, canLay_i, ih]; rfl
theorem depth_ints (l : List Nat) : PyData.depthAll (l.map fun k => PyData.int (k : Nat)) = 0 := by
  induction l with
  | nil => rfl
  | cons x r ih => show max 0 _ = 0; rw [ih]; rfl
theorem depth_i (ns : List Int) : (iDat ns).depth = 1 := by
  have : PyData.depthAll (ns.map .int) = 0 := by
    induction ns with
    | nil => rfl
    | cons x r ih => show max 0 _ = 0; rw [ih]; rfl
  show PyData.depthAll (ns.map .int) + 1 = 1
  rw [this]
theorem depth_row (w e : List Int) : (cRow w e).depth = 2 := by
  show (max 0 (max 0 (max 0 (max (k8 fun k => w.getD k 0 == minL w).depth (max (iDat _).depth 0))))) + 1 = 2
  rw [depth_i, show (k8 fun k => w.getD k 0 == minL w).depth = 1 from congrArg (· + 1) (depth_ints _)]; rfl
theorem depth_told (rws : List (List Int)) (n : Nat) : (PyData.list (cTold rws n)).depth ≤ 64 := by
  have : PyData.depthAll (cTold rws n) ≤ 2 := by
    unfold cTold
    induction (List.range n) with
    | nil => exact Nat.zero_le _
    | cons x r ih => show max (cRow _ _).depth _ ≤ 2; rw [depth_row]; exact Nat.max_le.mpr ⟨Nat.le_refl _, ih⟩
  show PyData.depthAll _ + 1 ≤ 64
  omega
theorem depth_mnt (ds : List Nat) : (PyData.list (ds.map mnt)).depth ≤ 64 := by
  have : PyData.depthAll (ds.map mnt) ≤ 1 := by
    induction ds with
    | nil => exact Nat.zero_le _
    | cons x r ih => show max (mnt x).depth _ ≤ 1; rw [mnt_eq, depth_i]; exact Nat.max_le.mpr ⟨Nat.le_refl _, ih⟩
  show PyData.depthAll _ + 1 ≤ 64
  omega
section
variable {c : Cf} {A : Around} {H₀ H : Heap} {X : List Addr} {L : Addr} {m : List (Str × Option Value)} {ims : List (Value × PyData)} {e : Env} {cl ccl : List (Str × Addr)} {nm : List (Str × NameKind)}
  {P : Addr → Nat → OP} {ds : List PyData} {rq : Addr → List (Addr × OP) → List (Value × PyData) → Prop} {led : Addr → List (Addr × OP)} {mO : Option Value → List (Str × Option Value)} {p : PyData → Bool} {g : PyData → PyData} {target elt iter : Expr} {ifs : List Expr} {scope : Scope} {pos : Pos}
  {Q : Value → Heap → Prop} {m₀ : List (Str × Option Value)} {led₀ : List (Addr × OP)} {ims₀ : List (Value × PyData)}
/-- a comprehension over a list that is made for it -/
theorem W_CompI (own : List Str) (ok : A.handled = none) (E : Ev e L cl nm) (hcl : clos cl scope.names [] = some ccl) (N : ∀ k, Nexts c A (P k) ds (rq k)) (hz : ds.length ≤ 1000)
    (init : Ent (St H₀ H X L m₀ led₀ ims₀) (W c A (eval iter e) (fun xv h₁ => ∃ k, W c A (pyIter xv) (itQ fun I => St H₀ H X L m ((I, P k 0) :: led k) ims) h₁)))
    (hreq : ∀ k h₂ led' ims', (∀ q ∈ frz h₂ L (led k), q ∈ led') → (∀ q ∈ ims, q ∈ ims') → rq k led' ims')
    (T : ∀ k, Turns c A H₀ L (led k) ims ccl (relN scope.names nm) own ds mO p g target elt ifs)
    (res : ∀ k D, Ent (St H₀ H X L m (led k) ((.ref D, .list ((ds.filter p).map g)) :: ims)) (Q (.ref D)))
    (sc : compOk scope = true := by kernel_rfl) (hown : ∀ n, (cellsFrom n scope.names []).map (·.1) = own := by intros; kernel_rfl)
    (hm0 : ∀ z, lk (mO none) z = none := by exact fun z => lk_none _ z) (hmk : ((mO none).map (·.1)).Nodup := by simp) (ht : ∀ it v, letOwnedTupleGo target it v = pure () := by intros; kernel_rfl)
    (hs : ∀ x, foldedSetIterable iter e x = pure x := by intros; kernel_rfl) :
    Ent (St H₀ H X L m₀ led₀ ims₀) (W c A (eval (.ListComp elt [⟨target, iter, ifs, 0⟩] scope pos) e) Q) := by
  refine fun h s => ⟨fun tk g hg => ?_⟩
  rw [eval_ListComp]
  refine wpAny_comprehension_free (use := none) rfl hs (closureFor_of (by rw [E.cel]; exact hcl)) (beq_iff_eq.mp (Bool.and_eq_true_iff.mp sc).1)
    (fun y hy hl => by have := List.all_eq_true.mp (Bool.and_eq_true_iff.mp sc).2 y hy; rw [hl] at this; exact beq_iff_eq.mp this) ((init h s).up hg fun xv h₁ g₁ tk₁ hg₁ x => ?_)
  obtain ⟨k, x⟩ := x
  refine W.up x hg₁ fun it h₂ g₂ tk₂ hg₂ y => ?_
  obtain ⟨I, rfl, s₂⟩ := y
  refine comp_enter (RR := fun acc C => compPost (Mo c) A NoE none (Post c Q) acc C) own E sc hown hm0 hmk (N k) hz (hreq k) (T k) ht (fun D C m' ys h tk gs hl hg hC hD hns hDC hLs k' hi => ?_) s₂ hg₂
  have hIL : L ≠ I := fun q => (List.nodup_cons.mp s₂.nd).1 (q ▸ .head _)
  have hLC : L ≠ C := fun q => by obtain ⟨o, _, _, e1, _⟩ := s₂.ns; rw [q, hC] at e1; cases e1
  refine ⟨m', hns, fun h' hs' => Post.mk' hg (res k D h' (comp_back hl s₂ hC hD hDC hLs k' hi ?_ s₂.kk fun b o n _ e => hs'.extBut b o n e))⟩
  obtain ⟨o, es, ep, e1, r⟩ := s₂.ns
  exact ⟨o, es, ep, hs'.extBut _ _ hLC (k' _ _ hIL e1), r⟩
theorem W_oneTest {S : Heap → Prop} {t : Expr} {R : Bool → Heap → Prop} (T : Ent S (W c A (isTrue t e (eval t e)) R)) : Ent S (W c A (testsT [t] e) R) := fun h s => ⟨fun tk g hg => wpAny_tests_one ((T h s).k1 hg)⟩
end
end
section
open PySem PySem.W PyProof.Rows PySem.Calls
set_option maxHeartbeats 4000000
section
variable {c : Cf} {A : Around} {H₀ hh : Heap}
def LawQ (c : Cf) (hh : Heap) : Value → Heap → Prop := fun v h' => v = .bool true ∧ Kp [c.cp] hh h' ∧ ∃ o, h'.get? c.cp = some o ∧ CodeP o
theorem law_ok {ns : List Int} {sc : Addr} (B : Bs c H₀) (ok : Ok A 6) (hb : le H₀ hh) (hcp : ∃ o, hh.get? c.cp = some o ∧ CodeP o) (hv : ∃ as, Reads (hideAll hh [c.cp]) (.ref sc) (iDat ns) as) (hn : ns.length ≤ 63) :
    W c A (call (.ref (c.fa 22)) [.ref sc]) (LawQ c hh) hh := by
  have hds := dsOf_len ns
  refine W_def1 (ims := [(.ref sc, iDat ns)]) 22 ["script"] ["drawn", "items", "letters", "rows", "ranges"] B ok hb hcp B.cp (fun p q => by rw [List.mem_singleton.mp q]; exact hv) fun e L A' ok' E hcd => ?_
  simp only [mk, bnd, List.zip_cons_cons, List.zip_nil_right, List.map_cons, List.map_nil, List.cons_append, List.nil_append]
  refine W_cons ?_
  walk_at "ws"
  refine newLs (IL [161, 69, 150, 187]) ⟨_, _, .cons _ _ (.cons _ _ (.cons _ _ (.cons _ _ .nil))), rfl⟩ (by simp) fun a1 => ?_
  walk_at "ws"
  refine W_CompI (m := [("script", some (.ref sc)), ("drawn", none), ("items", none), ("letters", none), ("rows", none), ("ranges", none)]) (ims := [(.ref sc, iDat ns)]) (mO := fun u => [("x", u)]) (p := fun _ => true) (g := onInt fun x => x.emod 256) [] ok'.hd E (ccl := []) (by kernel_rfl) (fun k => nexts_il ok'.hd k (ns.take 5)) (by rw [List.length_map, List.length_take]; omega)
    (led := fun k => (k, IL (ns.take 5)) :: (a1, IL [161, 69, 150, 187]) :: (c.cp, CodeP) :: []) ?_ (fun k h₂ led' ims' hF hI => srcF hF (by walk_at "mem")) (fun k => ?_) (fun k D => ?_) (hm0 := fun z => lk_none [_] z)
  · walk_at "ws"
    refine W_SlNS ?_
    walk_at "ws"
    refine ls_to (.inl (.head _)) (by decide) (by omega) fun a => ?_
    exact fun h s => ⟨a, e_iterI (.inr ⟨_, .head _, fun _ q => q⟩) (fun _ _ s => s) h s⟩
  · intro h₂ I2 C cenv oc hoc Ec
    obtain rfl : oc = [] := List.map_eq_nil_iff.mp hoc
    replace Ec : Ev cenv C [] _ := Ec
    refine ⟨fun u v x r ims R q => W_aName (W_store Ec (by kernel_rfl) .head q), fun v d led ims R hd hF hC hv hI q => W_noTest q, fun v d led ims R hd hp hF hC hv hI q => ?_⟩
    obtain ⟨y, hy, rfl⟩ := List.mem_map.mp hd
    refine im_int hv fun t e => ?_
    subst e
    walk_at "ws"
    refine b_mod256 fun _ => ?_
    exact addInt (q _)
  rw [onInt_list]
  refine l_addS (.inr ⟨_, by walk_at "mem", fun _ q => q⟩) (.inl (.head _)) (by rw [List.length_map, List.length_take]; show 4 + _ ≤ _; omega) fun x => freeze ?_
  rw [drawn_eq]
  generalize dsOf ns = ds at hds
  refine Ent.weak (led' := [(c.cp, CodeP)]) (ims' := [(.ref x, iDat (up ds))]) (.cons _ (.cons _ (.refl _))) (fun q hq => by rw [List.mem_singleton.mp hq]; exact .head _) ?_
  walk_at "ws"
  refine W_callF 10 B E ?_
  walk_at "ws"
  refine W_ms F.slot_str_join F.type_str_join ?_
  walk_at "ws"
  refine isStr ?_
  walk_at "ws"
  refine W_Comp (mO := fun u => [("draw", u)]) (p := fun _ => true) (g := sgD) [] ok'.hd E (ccl := []) (by kernel_rfl) (nexts_list ok'.hd x ((up ds).map .int)) (by rw [List.length_map, List.length_map]; omega) (by walk_at "ws"; exact e_iter _ (.head _) fun _ _ s => s) (fun _ _ _ _ hI => hI _ (.head _)) ?_ (fun D => ?_) (hm0 := fun z => lk_none [_] z)
  · intro h₂ I2 C cenv oc hoc Ec
    obtain rfl : oc = [] := List.map_eq_nil_iff.mp hoc
    replace Ec : Ev cenv C [] _ := Ec
    refine ⟨fun u v x r ims R q => W_aName (W_store Ec (by kernel_rfl) .head q), fun v d led ims R hd hF hC hv hI q => W_noTest q, fun v d led ims R hd hp hF hC hv hI q => ?_⟩
    obtain ⟨y, hy, rfl⟩ := List.mem_map.mp hd
    obtain ⟨k, hk, rfl⟩ := List.mem_map.mp hy
    refine im_int hv fun t e => ?_
    subst e
    walk_at "ws"
    refine W_callF 17 B Ec ?_
    walk_at "ws"
    refine E_pure _ (fun h s => sign_ok B (ok'.less (by decide)) s.bs) fun v hv => ?_
    obtain ⟨_, rfl⟩ := hv
    exact addStr (q _)
  rw [sgD_eq]
  walk_at "ws"
  refine e_join0 (.head _) hds fun _ => ?_
  walk_at "ws"
  refine Ent.weak (led' := [(c.cp, CodeP)]) (ims' := [(.ref x, iDat (up ds))]) (.refl _) (fun q hq => by rw [List.mem_singleton.mp hq]; exact .tail _ (.head _)) ?_
  refine E_trans (fun h s => translate_ok B (ok'.less (by decide)) s.old.sub (s.at (.head _)) (fun q => ?_) hds) fun v => ?_
  · have := s.nd
    rw [List.mem_singleton.mp q] at this
    simp at this
  refine im_ref (.head _) fun it e => ?_
  subst e
  walk_at "ws"
  refine W_CompA (mO := fun u => [("item", u)]) (p := fun _ => true) (g := ltD) [] ok'.hd E (ccl := []) (by kernel_rfl) (nexts_list ok'.hd it (ds.map fun d => .str (itm d))) (by rw [List.length_map]; omega) (by walk_at "ws"; exact e_iter _ (.head _) fun _ _ s => s) (fun _ _ _ _ hI => hI _ (.head _)) ?_ (by kernel_rfl) _ (fun D => by walk_at "mem") (fun D => ?_) (swaps_comp E (by kernel_rfl) (by kernel_rfl)) (hm0 := fun z => lk_none [_] z)
  · intro h₂ I2 C cenv oc hoc Ec
    obtain rfl : oc = [] := List.map_eq_nil_iff.mp hoc
    replace Ec : Ev cenv C [] _ := Ec
    refine ⟨fun u v x r ims R q => W_aName (W_store Ec (by kernel_rfl) .head q), fun v d led ims R hd hF hC hv hI q => W_noTest q, fun v d led ims R hd hp hF hC hv hI q => ?_⟩
    obtain ⟨k, hk, rfl⟩ := List.mem_map.mp hd
    refine im_str hv fun t e => ?_
    subst e
    walk_at "ws"
    refine W_callF 19 B Ec ?_
    walk_at "ws"
    refine E_ret (fun h s => letters_ok B (ok'.less (by decide)) s.old) fun v => ?_
    have q := q v
    rw [ltD_itm] at q
    exact q
  rw [ltD_eq]
  walk_at "ws"
  refine W_CompA (mO := fun u => [("row", u)]) (p := neD) (g := id) [] ok'.hd E (ccl := []) (by kernel_rfl) (nexts_list ok'.hd D (ds.map mnt)) (by rw [List.length_map]; omega) (by walk_at "ws"; exact e_iter _ (.head _) fun _ _ s => s) (fun _ _ _ _ hI => hI _ (.head _)) ?_ (by kernel_rfl) _ (fun D => by walk_at "mem") (fun D2 => ?_) (swaps_comp E (by kernel_rfl) (by kernel_rfl)) (hm0 := fun z => lk_none [_] z)
  · intro h₂ I2 C cenv oc hoc Ec
    obtain rfl : oc = [] := List.map_eq_nil_iff.mp hoc
    replace Ec : Ev cenv C [] _ := Ec
    refine ⟨fun u v x r ims R q => W_aName (W_store Ec (by kernel_rfl) .head q), fun v d led ims R hd hF hC hv hI q => W_oneTest ?_, fun v d led ims R hd hp hF hC hv hI q => W_local Ec (by kernel_rfl) .head fun h s => q v h (s.addIm (s.im _ hv).choose_spec)⟩
    obtain ⟨k, hk, rfl⟩ := List.mem_map.mp hd
    rw [mnt_eq] at hv q
    rw [neD_i] at q
    refine im_ref hv fun a e => ?_
    subst e
    walk_at "ws"
    refine newLsIm [] .nil (by simp) fun b => ?_
    walk_at "ws"
    refine l_ne (by have := ok'.un; omega) (.inl (.tail _ hv)) (.head _) ?_
    walk_at "ws"
    exact Ent.weak (.refl _) (fun q hq => .tail _ hq) q
  rw [List.map_id, rows_eq]
  have hps := psOf_ok ds
  have hpl : (psOf ds).length ≤ 9 := Nat.le_trans (psOf_len ds) hds
  generalize psOf ds = ps at hps hpl
  walk_at "ws"
  refine W_CompA (mO := fun u => [("row", u)]) (p := fun _ => true) (g := endsD) [] ok'.hd E (ccl := []) (by kernel_rfl) (nexts_list ok'.hd D2 ((rgRows ps).map iDat)) (by rw [List.length_map, List.length_map]; omega) (by walk_at "ws"; exact e_iter _ (.head _) fun _ _ s => s) (fun _ _ _ _ hI => hI _ (.head _)) ?_ (by kernel_rfl) _ (fun D => by walk_at "mem") (fun D3 => ?_) (swaps_comp E (by kernel_rfl) (by kernel_rfl)) (hm0 := fun z => lk_none [_] z)
  · intro h₂ I2 C cenv oc hoc Ec
    obtain rfl : oc = [] := List.map_eq_nil_iff.mp hoc
    replace Ec : Ev cenv C [] _ := Ec
    refine ⟨fun u v x r ims R q => W_aName (W_store Ec (by kernel_rfl) .head q), fun v d led ims R hd hF hC hv hI q => W_noTest q, fun v d led ims R hd hp hF hC hv hI q => ?_⟩
    obtain ⟨k, hk, rfl⟩ := List.mem_map.mp hd
    obtain ⟨pr, hpr, rfl⟩ := List.mem_map.mp hk
    obtain ⟨q1, q2⟩ := hps _ hpr
    obtain ⟨_, _, g3, g4, _⟩ := rg_at q1 q2
    refine im_ref hv fun a e => ?_
    subst e
    walk_at "ws"
    refine im_sub 0 (.inl hv) (.inl rfl) g3 (Nat.le_trans g4 (by decide)) fun _ => ?_
    walk_at "ws"
    refine im_sub ((rgI pr.1 pr.2).length - 1) (.inl hv) (.inr ⟨by decide, by omega⟩) (by omega) (Nat.le_trans g4 (by decide)) fun _ => ?_
    walk_at "ws"
    refine newTupIm [.int _, .int _] (.int (.int .nil)) (by simp) fun tp => ?_
    have q := q (.ref tp)
    rw [endsD_i] at q
    exact q
  rw [ends_eq hps]
  walk_at "ws"
  refine W_Comp (mO := fun u => [("draw", u)]) (p := fun _ => true) (g := mnD) [] ok'.hd E (ccl := []) (by kernel_rfl) (nexts_list ok'.hd x ((up ds).map .int)) (by rw [List.length_map, List.length_map]; omega) (by walk_at "ws"; exact e_iter _ (by walk_at "mem") fun _ _ s => s) (fun _ _ _ _ hI => hI _ (by walk_at "mem")) ?_ (fun D4 => ?_) (hm0 := fun z => lk_none [_] z)
  · intro h₂ I2 C cenv oc hoc Ec
    obtain rfl : oc = [] := List.map_eq_nil_iff.mp hoc
    replace Ec : Ev cenv C [] _ := Ec
    refine ⟨fun u v x r ims R q => W_aName (W_store Ec (by kernel_rfl) .head q), fun v d led ims R hd hF hC hv hI q => W_noTest q, fun v d led ims R hd hp hF hC hv hI q => ?_⟩
    obtain ⟨y, hy, rfl⟩ := List.mem_map.mp hd
    obtain ⟨k, hk, rfl⟩ := List.mem_map.mp hy
    refine im_int hv fun t e => ?_
    subst e
    walk_at "ws"
    refine W_callF 18 B Ec ?_
    walk_at "ws"
    exact E_ret (fun h s => meant_ok B (ok'.less (by decide)) s.old) q
  rw [mnD_eq]
  have hu : A'.units + 64 < cLine := by have := ok'.un; omega
  refine e_eq (d := .list (ds.map mnt)) (by walk_at "mem") (.head _) (canLay_mnt ds) hu (depth_mnt ds) ?_
  walk_at "ws"
  have e1 : (rgEnds ps).length = ps.length := List.length_map _
  have e2 : (rgRows ps).length = ps.length := List.length_map _
  refine W_callF 20 B E ?_
  walk_at "ws"
  refine E_ret (d := .list (hTold (rgEnds ps) (rgEnds ps).length)) (fun h s => heaps_ok B (ok'.less (by decide)) s.old (s.im (.ref D3, dRs (rgEnds ps)) (.tail _ (.head _))) (by rw [e1]; exact hpl)) fun v => ?_
  walk_at "ws"
  refine W_callF 21 B E ?_
  walk_at "ws"
  refine E_ret (d := .list (cTold (rgRows ps) (rgRows ps).length)) (fun h s => counting_ok B (ok'.less (by decide)) s.old (s.im (.ref D2, .list ((rgRows ps).map iDat)) (.tail _ (.tail _ (.tail _ (.head _))))) (by rw [e2]; exact hpl) fun r hr => ?_) fun w => ?_
  · obtain ⟨p, hp, rfl⟩ := List.mem_map.mp hr
    obtain ⟨q1, q2⟩ := hps p hp
    obtain ⟨_, _, g3, g4, _⟩ := rg_at q1 q2
    exact ⟨g3, g4⟩
  rw [e1, e2, told_eq hps]
  refine e_eq (.tail _ (.head _)) (.head _) (canLay_told _ _) hu (depth_told _ _) ?_
  exact fun h s => ⟨rfl, s.kp, s.at (by walk_at "mem")⟩
end

end
section
open PySem PySem.W PyProof.Rows PySem.Calls
theorem ns_unique {h : Heap} {a : Addr} {m m' : Str → Option Value} (x : h.Ns a m) (y : h.Ns a m') : m = m' := by
  obtain ⟨o, es, ep, e1, d1, _, f1⟩ := x
  obtain ⟨o', es', ep', e2, d2, _, f2⟩ := y
  rw [e1] at e2; cases e2
  rw [d1] at d2; cases d2
  funext n
  rw [← f1 n, ← f2 n]
def spos : Stmt → Pos
  | .FunctionDef _ _ _ _ _ _ _ _ _ p => p
  | _ => default
def recOf (k : Nat) : DefRec := ⟨sname (stm k), sparams (stm k), sbody (stm k), sscope (stm k), spos (stm k)⟩
def addrOf (v : Option Value) : Addr := match v with
  | some (.ref a) => a
  | _ => 0
theorem bs_of {w : World} {d : Drawn} {os : OsState} {h : Heap} {mg mb : Str → Option Value} (g : h.Ns mainGlobals mg) (b : h.Ns builtinsNs mb) (lim : h.NoLimit)
    (fn : ∀ k ∈ defIdx, ∃ a o pm code doc, mg (sname (stm k)) = some (.ref a) ∧ h.get? a = some o ∧ o.data = .func (dfd k pm code doc) ∧ h.CodeRec code (sname (stm k)))
    (free : ∀ x ∈ freeNames, mg x = none) (bo : ∀ x : Str, x ≠ "__name__" → mb x = bootBuiltins x)
    (tab : ∃ a o fd cc cp, mg (sname (stm 10)) = some (.ref a) ∧ h.get? a = some o ∧ o.data = .func fd ∧ fd.code = .ref cc ∧ h.IsCode cc cp #[] ∧ h.TableAt cc cp #[])
    (bmain : ∃ bm ob, mg "__builtins__" = some (.ref bm) ∧ bm ≠ builtinsNs ∧ h.get? bm = some ob ∧ ob.cls = .type "module" ∧ ob.dict = some builtinsNs ∧ ob.data = .plain) (hks : HookSays h) :
    ∃ c : Cf, c.w = w ∧ c.d = d ∧ c.os = os ∧ Bs c (hideAll h [c.cp]) ∧ h.TableAt c.cc c.cp #[] ∧ ∀ k ∈ defIdx, mg (sname (stm k)) = some (.ref (c.fa k)) := by
  obtain ⟨mg', pat, ptu, scm, k1, k2, k3, k4, fM, m1, m2, m3⟩ := hks.m
  obtain rfl := ns_unique g k1
  obtain ⟨a10, o10, fd10, cc, cp, t1, t2, t3, t4, t5, t6⟩ := tab
  have hcp := t6.2
  have ne : ∀ (x : Addr) (o : Obj), h.get? x = some o → (o.cls ≠ .none ∨ ∀ ps, o.data ≠ .fields ps) → x ∉ [cp] := fun x o e q z => by
    rw [List.mem_singleton.mp z, hcp] at e; cases e
    rcases q with q | q
    · exact q rfl
    · exact q _ rfl
  have keep : ∀ (x : Addr) (o : Obj), h.get? x = some o → (o.cls ≠ .none ∨ ∀ ps, o.data ≠ .fields ps) → (hideAll h [cp]).get? x = some o := fun x o e q => hideAll_get _ e (ne x o e q)
  have nsK : ∀ {x : Addr} {m : Str → Option Value}, h.Ns x m → (hideAll h [cp]).Ns x m := fun {x m} z => by
    obtain ⟨o, es, ep, e1, d1, r⟩ := z
    exact ⟨o, es, ep, keep x o e1 (.inr fun ps q => by rw [d1] at q; cases q), d1, r⟩
  have fa : ∀ k ∈ defIdx, mg (sname (stm k)) = some (.ref (addrOf (mg (sname (stm k))))) := fun k hk => by
    obtain ⟨a, o, pm, code, doc, e, _⟩ := fn k hk
    rw [e]; rfl
  refine ⟨⟨w, d, os, fun k => addrOf (mg (sname (stm k))), cc, cp, pat, ptu, scm⟩, rfl, rfl, rfl, ⟨?_, ?_, fun k hk => ?_, ?_, hideAll_none _ (.head _), ?_, ?_⟩, t6, fa⟩
  · refine ⟨mg, mb, nsK g, nsK b, bo, free, fa, k2, k3, ?_⟩
    obtain ⟨bm, ob, b1, b2, b3, b4, b5, b6⟩ := bmain
    exact ⟨bm, ob, b1, b2, keep _ _ b3 (.inl (by rw [b4]; exact fun q => nomatch q)), b4, b5, b6⟩
  · obtain ⟨mc, n1, n2⟩ := lim
    exact ⟨mc, nsK n1, n2⟩
  · obtain ⟨a, o, pm, code, doc, e1, e2, e3, cx, ox, vs, tx, c1, c2, c3, c4⟩ := fn k hk
    have ea : addrOf (mg (sname (stm k))) = a := by rw [e1]; rfl
    refine ⟨o, pm, code, doc, ?_, e3, ⟨cx, ox, vs, tx, c1, hideAll_get _ c2 ?_, c3, c4⟩, ?_⟩
    · show (hideAll h [cp]).get? (addrOf (mg (sname (stm k)))) = some o
      rw [ea]
      exact keep _ _ e2 (.inr fun ps q => by rw [e3] at q; cases q)
    · intro z
      rw [List.mem_singleton.mp z, hcp] at c2
      cases c2
      cases c3
      cases c4
    · rintro rfl
      rw [t1] at e1
      cases e1
      rw [t2] at e2; cases e2
      rw [t3] at e3
      injection e3 with e3
      rw [← t4, e3]; rfl
  · intro h' ps hl hc' ht
    obtain ⟨o, vs, file, tf, flags, tg, inF, text, tt, op, x1, x2, x3, x4, x5, x6, x7, _, _, _, x8⟩ := t5
    obtain ⟨⟨o', vs', y1, y2, y3, y4⟩, _⟩ := t6
    have hcc : ∀ z, h.get? cc = some z → h'.get? cc = some z := fun z e => hl _ _ (hideAll_get _ e fun q => x8 (List.mem_singleton.mp q))
    exact ⟨⟨o, vs, file, tf, flags, tg, inF, text, tt, _, hcc _ x1, x2, x3, x4, x5, x6, x7, hc', rfl, ht, x8⟩, ⟨⟨o', vs', hcc _ y1, y2, y3, y4⟩, hc'⟩⟩
  · obtain ⟨⟨o, fs, q1, q2, r⟩, ⟨o2, vs, n, p1, p2, p3⟩⟩ := k4
    exact ⟨⟨o, fs, keep _ _ q1 (.inl (by rw [q2]; exact fun q => nomatch q)), q2, r⟩, ⟨o2, vs, n, keep _ _ p1 (.inr fun ps q => by rw [p2] at q; cases q), p2, p3⟩⟩
  · refine ⟨fM, fun prog w => ?_, m2, m3⟩
    obtain ⟨o, es, ep, e1, e2, e3, r⟩ := m1 prog w
    exact ⟨o, es, ep, keep _ _ e1 (.inr fun ps q => by rw [e3] at q; cases q), e2, e3, r⟩

abbrev lawRow : RowW := PySem.Challenge.rw_rx0039_01.row.toRowW
theorem law_walk {q : Program} {loose : List Str} {XP : (Str → Option Value) → Heap → Prop} (hr : ∀ k ∈ defIdx, recOf k ∈ recsOf q)
    (hf : ∀ x ∈ freeNames, x ∉ startupNames ∧ x ∉ looseW q loose ∧ x ∉ (recsOf q).map (·.name) ∧ x ∉ (litsOf q).map (·.1) ∧ x ∉ (clssOf q (looseW q loose)).map (·.name)) :
    WalkO q loose XP hk.says lawRow (recOf 22) [] fun f vs => PySem.call f vs := by
  intro w s₀ s₁ mg mb G Y a o pm cd doc dV kV ho hd hcd hD hmg hg args vals as hpre hlay hrd hwl hlo
  have T := G.T
  obtain ⟨c, rfl, hcdd, hco, B, t6, fa⟩ := bs_of (w := w) (d := s₁.drawn) (os := s₁.os) T.g T.b T.nolimit (fun k hk => T.fn _ (hr k hk)) (fun x hx => let ⟨h1, h2, h3, h4, h5⟩ := hf x hx; T.free x h1 h2 h3 h4 h5) T.builtins (T.tab _ (hr 10 (by decide))) T.bmain Y
  clear ho hd hcd hD
  wrow_args hpre hlay hrd hwl hlo
  rename_i ns hs hlay0 hL1 hr1 hl2 w4 w3 sc vs w0 hL ra w1 r0 hI hr2 hc1 hc2
  have hn : ns.length ≤ 63 := by omega
  have ha : a = c.fa 22 := by
    have := fa 22 (by decide)
    rw [show (recOf 22).name = sname (stm 22) from rfl, this] at hmg
    injection hmg with e
    injection e with e
    exact e.symm
  subst ha
  have hcp : ∃ o, s₁.heap.get? c.cp = some o ∧ CodeP o := ⟨_, t6.2, #[], rfl, trivial⟩
  have hrd : ∃ as, Reads (hideAll s₁.heap [c.cp]) (.ref sc) (iDat ns) as := by
    obtain ⟨o, e1, e2, n, e3⟩ := hL
    obtain ⟨as, ra⟩ := readsAll_ints (h := hideAll s₁.heap [c.cp]) hI
    refine ⟨_, .list (hideAll_get _ e1 fun q => ?_) e2 e3 (by simpa using ra)⟩
    rw [List.mem_singleton.mp q, t6.2] at e1
    cases e1; cases e2
  have hok : Ok callerA 6 := ⟨rfl, by decide, by decide⟩
  have hw := (law_ok B hok (fun b o e => of_hideAll _ e) hcp hrd hn).run s₁.toks s₁.gens (.of_eq hg)
  have hsh : Sh c s₁.heap s₁.gens s₁.toks = s₁ := by
    obtain ⟨h, g, d, tk, os⟩ := s₁
    show Shared.mk h g c.d tk c.os = _
    rw [hcdd, hco]
  rw [hsh] at hw
  refine wpAny_mono hw (fun v s' x => ?_) fun _ _ x => x.elim
  obtain ⟨h', tk', g', rfl, hg', rfl, hk, o', e1, ps, rfl, ht⟩ := x
  refine ⟨.inl ⟨_, .bool true, [], rfl, fun _ => rfl, .bool true, by wrow_post, fun _ => ⟨.nil, fun _ h => nomatch h⟩⟩, ⟨fun b o e => ?_, fun b o e => ?_⟩, hco, hg'⟩
  · by_cases q : b ∈ [c.cp]
    · rw [List.mem_singleton.mp q, t6.2] at e
      cases e
      rw [List.mem_singleton.mp q]
      exact .inr (.inl ⟨t6.isCodeTable, rfl, #[], ps, rfl, by rw [Array.empty_append]; exact e1⟩)
    · exact .inl (hk b o q e)
  · by_cases q : b ∈ [c.cp]
    · rw [List.mem_singleton.mp q]; exact ⟨_, e1⟩
    · exact ⟨o, hk b o q e⟩
end
section
open PySem PySem.W PyProof.Rows PySem.Calls
/-- as law_walk, its premises in a form that the kernel decides -/
theorem law_join {q : Program} {loose : List Str} {XP : (Str → Option Value) → Heap → Prop} {r : DefRec} (e : r = recOf 22) (hr : recsOf q = defIdx.map recOf)
    (hf : (freeNames.all fun x => !startupNames.contains x && !(looseW q loose).contains x && !((recsOf q).map (·.name)).contains x && !((litsOf q).map (·.1)).contains x && !((clssOf q (looseW q loose)).map (·.name)).contains x) = true) :
    WalkO q loose XP hk.says lawRow r [] fun f vs => PySem.call f vs := by
  subst e
  refine law_walk (fun k hk => by rw [hr]; exact List.mem_map_of_mem hk) fun x hx => ?_
  have h := List.all_eq_true.mp hf x hx
  simp only [Bool.and_eq_true, Bool.not_eq_true', List.contains_eq_mem, decide_eq_false_iff_not] at h
  obtain ⟨⟨⟨⟨h1, h2⟩, h3⟩, h4⟩, h5⟩ := h
  exact ⟨h1, h2, h3, h4, h5⟩
end
end Mine
set_option maxHeartbeats 0 in
theorem PySem.Challenge.cw_rx0039_01_holds : PySem.Challenge.rw_rx0039_01.Holds := by
  w_on
  o_law
  refine holds_open (q := Mine.tpQ) (loose := Mine.tpL) (Xt := fun s => xlAt Mine.tpQ [] s && recOk (RowW.records Mine.tpR) s) (XP := XL Mine.tpQ []) (Yf := Hook.obs Mine.hk) (Ya := Hook.val Mine.hk) (YP := Hook.says Mine.hk) (d := Mine.recOf 22) (kwd := []) (N := 4096) Mine.tp_left (Hook.of Mine.hk) (Hook.keeps Mine.hk) (fun s e => xl_of s (Bool.and_eq_true_iff.mp e).1) XL.keeps (by kernel_rfl) (by kernel_rfl) (by kernel_rfl) (fun s e => recFacts_of (Bool.and_eq_true_iff.mp e).2) (by kernel_rfl) (by first | assumption | decide +kernel) (by decide +kernel) ⟨rfl, rfl, rfl, rfl, rfl, by decide +kernel⟩ ?hw ?hc
  (case hw => w_witness2)
  exact Mine.law_join rfl (by kernel_rfl) (by decide +kernel)
