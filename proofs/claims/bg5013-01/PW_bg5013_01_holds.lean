import PyProof.Rows.All
import Wide.All
import OpenK.AllK
import Wide.FinOn
import Lean
import PySem.Challenge.RW_bg5013_01

set_option maxRecDepth 100000
set_option Elab.async false
set_option linter.all false

namespace Mine
open PySem PySem.W PySem.Calls PyProof.Rows PySem.Spec

/-- a code table: the one kind of old object that a call may change -/
def Tb (o : Obj) : Prop := o.cls = .none ∧ ∃ vs, o.data = .fields vs
/-- a code object or a code table -/
def Cd (o : Obj) : Prop := (o.cls = .none ∨ o.cls = .type "code") ∧ ∃ vs, o.data = .fields vs

inductive Slot where
  | undef
  | val (d : PyData)
  | own (k : Nat)

inductive Exn where
  | zde
  | cplx

structure Fc where
  cn : Str
  cs : Scope
  L : Addr
  a : Addr
  cd : Value
  outer : List Env
  fb : List Addr
  dp : Nat
  un : Nat
  gd : Option (List Code)
  rk : Nat

abbrev Fc.env (f : Fc) : Env := envOf f.cn f.cs f.L f.a f.cd
abbrev Fc.A (f : Fc) : Around := { handled := none, depth := f.dp, frames := some (f.env :: f.outer), guards := f.gd, units := f.un }
abbrev Fc.X (f : Fc) (ads : List Addr) : List Addr := f.L :: (ads ++ f.fb)
abbrev Fc.fs (f : Fc) : List Addr := (f.env :: f.outer).filterMap (·.frame)

mutual
inductive Rd (h : Heap) (X : List Addr) : Value → PyData → Prop
  | none : Rd h X .none .none
  | bool (b) : Rd h X (.bool b) (.bool b)
  | int (i t) : Rd h X (.int i t) (.int i)
  | str (x t) : Rd h X (.str x t) (.str x)
  | list {a o vs n xs} : h.get? a = some o → o.cls = .type "list" → o.data = .seq vs n → a ∉ X → Rds h X vs.toList xs → Rd h X (.ref a) (.list xs)
  | tuple {a o vs n xs} : h.get? a = some o → o.cls = .type "tuple" → o.data = .seq vs n → a ∉ X → Rds h X vs.toList xs → Rd h X (.ref a) (.tuple xs)
inductive Rds (h : Heap) (X : List Addr) : List Value → List PyData → Prop
  | nil : Rds h X [] []
  | cons {v vs d ds} : Rd h X v d → Rds h X vs ds → Rds h X (v :: vs) (d :: ds)
end

theorem Rd.mono {h h' : Heap} {X X' : List Addr} (hk : ∀ b o vs n, h.get? b = some o → o.data = .seq vs n → b ∉ X → h'.get? b = some o ∧ b ∉ X') {v : Value} {d : PyData} (r : Rd h X v d) : Rd h' X' v d := by
  refine Rd.rec (motive_1 := fun v d _ => Rd h' X' v d) (motive_2 := fun vs ds _ => Rds h' X' vs ds) .none .bool .int .str ?_ ?_ .nil ?_ r
  · intro a o vs n xs ho hc hd hx _ ih
    obtain ⟨h1, h2⟩ := hk a o vs n ho hd hx
    exact .list h1 hc hd h2 ih
  · intro a o vs n xs ho hc hd hx _ ih
    obtain ⟨h1, h2⟩ := hk a o vs n ho hd hx
    exact .tuple h1 hc hd h2 ih
  · intro v vs d ds _ _ i1 i2; exact .cons i1 i2

theorem Rds.mono {h h' : Heap} {X X' : List Addr} (hk : ∀ b o vs n, h.get? b = some o → o.data = .seq vs n → b ∉ X → h'.get? b = some o ∧ b ∉ X') : ∀ {v : List Value} {d : List PyData}, Rds h X v d → Rds h' X' v d
  | _, _, .nil => .nil
  | _, _, .cons r s => .cons (r.mono hk) (s.mono hk)

theorem Rd.reads {h : Heap} {X : List Addr} {v : Value} {d : PyData} (r : Rd h X v d) : ∃ as, Reads h v d as := by
  refine Rd.rec (motive_1 := fun v d _ => ∃ as, Reads h v d as) (motive_2 := fun vs ds _ => ∃ as, ReadsAll h vs ds as) ⟨_, .none⟩ (fun b => ⟨_, .bool b⟩) (fun i t => ⟨_, .int i t⟩) (fun x t => ⟨_, .str x t⟩) ?_ ?_ ⟨_, .nil⟩ ?_ r
  · rintro a o vs n xs ho hc hd hx _ ⟨as, ih⟩
    exact ⟨_, .list ho hc hd ih⟩
  · rintro a o vs n xs ho hc hd hx _ ⟨as, ih⟩
    exact ⟨_, .tuple ho hc hd ih⟩
  · rintro v vs d ds _ _ ⟨as, i1⟩ ⟨bs, i2⟩; exact ⟨_, .cons i1 i2⟩

theorem Rds.length {h : Heap} {X : List Addr} : ∀ {v : List Value} {d : List PyData}, Rds h X v d → v.length = d.length
  | _, _, .nil => rfl
  | _, _, .cons _ s => congrArg (· + 1) s.length
theorem Rds.get {h : Heap} {X : List Addr} : ∀ {v : List Value} {d : List PyData} (_ : Rds h X v d) (i : Nat) (e : PyData), d[i]? = some e → ∃ u, v[i]? = some u ∧ Rd h X u e
  | _, _, .nil, i, e, he => by simp at he
  | _, _, .cons r s, 0, e, he => by simp at he; subst he; exact ⟨_, rfl, r⟩
  | _, _, .cons r s, i + 1, e, he => by simpa using s.get i e (by simpa using he)
theorem Rds.append {h : Heap} {X : List Addr} {v' : List Value} {d' : List PyData} (y : Rds h X v' d') : ∀ {v : List Value} {d : List PyData} (_ : Rds h X v d), Rds h X (v ++ v') (d ++ d')
  | _, _, .nil => y
  | _, _, .cons r s => .cons r (Rds.append y s)
theorem Rds.take {h : Heap} {X : List Addr} : ∀ (n : Nat) {v : List Value} {d : List PyData} (_ : Rds h X v d), Rds h X (v.take n) (d.take n)
  | 0, _, _, _ => by simpa using Rds.nil
  | n + 1, _, _, .nil => .nil
  | n + 1, _, _, .cons r s => .cons r (Rds.take n s)
theorem Rds.drop {h : Heap} {X : List Addr} : ∀ (n : Nat) {v : List Value} {d : List PyData} (_ : Rds h X v d), Rds h X (v.drop n) (d.drop n)
  | 0, _, _, r => by simpa using r
  | n + 1, _, _, .nil => .nil
  | n + 1, _, _, .cons r s => Rds.drop n s
theorem Rds.set {h : Heap} {X : List Addr} {u : Value} {e : PyData} (y : Rd h X u e) : ∀ (n : Nat) {v : List Value} {d : List PyData} (_ : Rds h X v d), Rds h X (v.set n u) (d.set n e)
  | _, _, _, .nil => .nil
  | 0, _, _, .cons r s => .cons y s
  | n + 1, _, _, .cons r s => .cons r (Rds.set y n s)

structure Cx where
  prog : Program
  w : World
  K : Frag
  p : Program
  loose : List Str
  mg : Str → Option Value
  mb : Str → Option Value
  N : Nat
  I : Addr → Prop
  ilt : ∀ b, I b → b < N
  GI : List Addr → Shared → Prop
  stable : ∀ w s s', GI w s → s'.os = s.os → s'.gens = s.gens → (∀ b o, s.heap.get? b = some o → (I b ∨ b ∈ w) → s'.heap.get? b = some o) → GI w s'
  ihas : ∀ w s b, GI w s → I b → ∃ o, s.heap.get? b = some o
  whas : ∀ w s b, GI w s → b ∈ w → ∃ o, s.heap.get? b = some o ∧ Cd o
  low : ∀ w s, GI w s → N ≤ s.heap.objs.size
  kb : ∀ a o, K.lookup a = some o → ¬ Tb o ∧ a < N
  tg : mainGlobals < N
  tb : builtinsNs < N
  tc : cStatics < N

/-- what stands: every object but code tables and those of S -/
def HS (S : List Addr) (h h' : Heap) : Prop := ∀ b o, h.get? b = some o → ∃ o', h'.get? b = some o' ∧ (¬ Tb o → b ∉ S → o' = o)
abbrev HX (h h' : Heap) : Prop := HS [] h h'
theorem HS.refl (S) (h : Heap) : HS S h h := fun _ o e => ⟨o, e, fun _ _ => rfl⟩
theorem HS.get {S} {h h' : Heap} (x : HS S h h') {b o} (e : h.get? b = some o) (n : ¬ Tb o) (hs : b ∉ S) : h'.get? b = some o := by
  obtain ⟨o', h1, h2⟩ := x b o e
  rw [h1, h2 n hs]
theorem HS.trans {S} {h h' h'' : Heap} (x : HS S h h') (y : HS S h' h'') : HS S h h'' := fun b o e => by
  obtain ⟨o', h1, h2⟩ := x b o e
  obtain ⟨o'', h3, h4⟩ := y b o' h1
  refine ⟨o'', h3, fun n hs => ?_⟩
  have := h2 n hs; subst this
  exact h4 n hs
theorem HS.mono {S S'} {h h' : Heap} (x : HS S h h') (k : ∀ b, (h.get? b).isSome → b ∈ S → b ∈ S') : HS S' h h' := fun b o e => by
  obtain ⟨o', h1, h2⟩ := x b o e
  exact ⟨o', h1, fun n hs => h2 n fun q => hs (k b (by rw [e]; rfl) q)⟩
theorem HX.of_keep {S} {h h' : Heap} (x : ∀ b o, h.get? b = some o → h'.get? b = some o) : HS S h h' := fun b o e => ⟨o, x b o e, fun _ _ => rfl⟩
theorem HX.toHS {S} {h h' : Heap} (x : HX h h') : HS S h h' := x.mono fun _ _ q => nomatch q
theorem HX.get {h h' : Heap} (x : HX h h') {b o} (e : h.get? b = some o) (n : ¬ Tb o) : h'.get? b = some o := HS.get x e n (fun q => nomatch q)

theorem not_tb_seq {o : Obj} {vs n} (h : o.data = .seq vs n) : ¬ Tb o := fun ⟨_, _, e⟩ => by rw [h] at e; cases e
theorem not_tb_dict {o : Obj} {vs n} (h : o.data = .dict vs n) : ¬ Tb o := fun ⟨_, _, e⟩ => by rw [h] at e; cases e

def SlotIs (h : Heap) (m : Str → Option Value) (ads : List Addr) (X : List Addr) (x : Str) : Slot → Prop
  | .undef => True
  | .val d => ∃ u, m x = some u ∧ Rd h X u d
  | .own k => ∃ a, m x = some (.ref a) ∧ ads[k]? = some a

def EnvIs (h : Heap) (m : Str → Option Value) (ns : List Str) (ρ : List Slot) (ads : List Addr) (X : List Addr) : Prop :=
  ∀ (i : Nat) (x : Str) (sl : Slot), ns[i]? = some x → ρ[i]? = some sl → SlotIs h m ads X x sl

def OwnIs (h : Heap) (N : Nat) (ads : List Addr) (σ : List (List PyData)) (X : List Addr) : Prop :=
  ads.length = σ.length ∧ ads.Nodup ∧ ∀ (k : Nat) (a : Addr) (ds : List PyData), ads[k]? = some a → σ[k]? = some ds → N ≤ a ∧ ∃ o items n, h.get? a = some o ∧ o.cls = .type "list" ∧ (o.dict = none ∧ o.slots = #[]) ∧ o.data = .seq items n ∧ Rds h X items.toList ds

def FramesIs (h : Heap) (N : Nat) : List Env → Prop
  | [] => True
  | env :: r => env.scope.kind = .function ∧ (∃ L o es n, env.frame = some L ∧ N ≤ L ∧ h.get? L = some o ∧ o.data = .dict es n) ∧ FramesIs h N r

structure InFr (cx : Cx) (fc : Fc) (ns : List Str) (ρ : List Slot) (ads : List Addr) (σ : List (List PyData)) (s : Shared) : Prop where
  kin : cx.K.In s.heap
  top : TopRead cx.p cx.loose cx.mg cx.mb s.heap
  gi : ∃ w, cx.GI w s
  env : ∃ m, s.heap.Ns fc.L m ∧ EnvIs s.heap m ns ρ ads (fc.X ads)
  lN : cx.N ≤ fc.L
  own : OwnIs s.heap cx.N ads σ (fc.X ads)
  frs : FramesIs s.heap cx.N (fc.env :: fc.outer)
  fbs : ∀ x ∈ fc.fb, cx.N ≤ x ∧ ∃ o, s.heap.get? x = some o
  nsl : ∀ x ∈ ns, fc.cs.names.lookup x = some .local
  nsd : ns.Nodup
  hk : fc.cs.kind = .function
  rmd : fc.dp + fc.rk < recursionLimit
  rmu : fc.un + 8 * fc.rk + 100 < cLine

theorem FramesIs.mono {h h' : Heap} {N : Nat} (hk : ∀ b o es n, h.get? b = some o → o.data = .dict es n → ∃ o', h'.get? b = some o' ∧ o'.data = o.data) : ∀ {l : List Env}, FramesIs h N l → FramesIs h' N l
  | [], _ => trivial
  | _ :: _, ⟨hf, ⟨L, o, es, n, h1, h2, h3, h4⟩, r⟩ => by
    obtain ⟨o', h5, h6⟩ := hk L o es n h3 h4
    exact ⟨hf, ⟨L, o', es, n, h1, h2, h5, h6.trans h4⟩, r.mono hk⟩

theorem Ns.mono {h h' : Heap} {a : Addr} {m} (x : h.Ns a m) (hk : HX h h') : h'.Ns a m := by
  obtain ⟨o, es, ep, ho, hd, r⟩ := x
  exact ⟨o, es, ep, hk.get ho (not_tb_dict hd), hd, r⟩
theorem NoLimit.mono {h h' : Heap} (x : h.NoLimit) (hk : HX h h') : h'.NoLimit := let ⟨mc, a, b⟩ := x; ⟨mc, Ns.mono a hk, b⟩
theorem TopRead.mono {p loose mg mb} {h h' : Heap} (x : TopRead p loose mg mb h) (hk : HX h h') : TopRead p loose mg mb h' :=
  ⟨Ns.mono x.g hk, Ns.mono x.b hk, NoLimit.mono x.nolimit hk, x.builtins, x.free⟩

theorem Rd.hx {h h' : Heap} {X : List Addr} {v d} (r : Rd h X v d) (hk : HX h h') : Rd h' X v d := r.mono fun b o vs n ho hd hx => ⟨hk.get ho (not_tb_seq hd), hx⟩
theorem Rds.hx {h h' : Heap} {X : List Addr} {v d} (r : Rds h X v d) (hk : HX h h') : Rds h' X v d := r.mono fun b o vs n ho hd hx => ⟨hk.get ho (not_tb_seq hd), hx⟩

variable {cx : Cx} {fc : Fc} {ns : List Str} {ρ : List Slot} {ads : List Addr} {σ : List (List PyData)} {s s' : Shared}

theorem InFr.ev (F : InFr cx fc ns ρ ads σ s) (hk : HX s.heap s'.heap) (gi : ∃ w, cx.GI w s') : InFr cx fc ns ρ ads σ s' where
  kin := fun a o e => hk.get (F.kin a o e) (cx.kb a o e).1
  top := TopRead.mono F.top hk
  gi := gi
  env := by
    obtain ⟨m, h1, h2⟩ := F.env
    refine ⟨m, Ns.mono h1 hk, fun i x sl hi hr => ?_⟩
    have := h2 i x sl hi hr
    cases sl with
    | undef => trivial
    | val d => obtain ⟨u, h3, h4⟩ := this; exact ⟨u, h3, h4.hx hk⟩
    | own k => exact this
  lN := F.lN
  own := ⟨F.own.1, F.own.2.1, fun k a ds h1 h2 => by
    obtain ⟨h3, o, items, n, h4, h5, h5d, h6, h7⟩ := F.own.2.2 k a ds h1 h2
    exact ⟨h3, o, items, n, hk.get h4 (not_tb_seq h6), h5, h5d, h6, h7.hx hk⟩⟩
  frs := F.frs.mono fun b o es n ho hd => ⟨o, hk.get ho (not_tb_dict hd), rfl⟩
  fbs := fun x hx => let ⟨h1, o, h2⟩ := F.fbs x hx; let ⟨o', h3, _⟩ := hk x o h2; ⟨h1, o', h3⟩
  nsl := F.nsl
  nsd := F.nsd
  hk := F.hk
  rmd := F.rmd
  rmu := F.rmu

theorem InFr.keep (F : InFr cx fc ns ρ ads σ s) (hk : ∀ b o, s.heap.get? b = some o → s'.heap.get? b = some o) (hos : s'.os = s.os) (hg : s'.gens = s.gens) : InFr cx fc ns ρ ads σ s' :=
  F.ev (HX.of_keep hk) (let ⟨w, g⟩ := F.gi; ⟨w, cx.stable _ _ _ g hos hg fun b o e _ => hk b o e⟩)

theorem InFr.toks (F : InFr cx fc ns ρ ads σ s) (t : Nat) : InFr cx fc ns ρ ads σ { s with toks := t } := F.keep (fun _ _ e => e) rfl rfl
theorem InFr.push (F : InFr cx fc ns ρ ads σ s) (o : Obj) : InFr cx fc ns ρ ads σ { s with heap := s.heap.push o } := F.keep (fun _ _ e => Heap.get?_push_of_some _ e) rfl rfl

theorem InFr.xlt (F : InFr cx fc ns ρ ads σ s) : ∀ x ∈ fc.X ads, x < s.heap.objs.size := by
  intro x hx
  rcases List.mem_cons.mp hx with rfl | hx
  · obtain ⟨m, h1, _⟩ := F.env; exact h1.lt
  · rcases List.mem_append.mp hx with hx | hx
    · obtain ⟨k, hk, rfl⟩ := List.getElem_of_mem hx
      have hk' : k < σ.length := by rw [← F.own.1]; exact hk
      obtain ⟨_, o, _, _, h4, _⟩ := F.own.2.2 k _ _ (List.getElem?_eq_getElem hk) (List.getElem?_eq_getElem hk')
      exact Heap.lt_size h4
    · obtain ⟨_, o, h2⟩ := F.fbs x hx; exact Heap.lt_size h2

/-- a new object avoids what may be changed -/
theorem InFr.newX (F : InFr cx fc ns ρ ads σ s) : s.heap.objs.size ∉ fc.X ads := fun h => Nat.lt_irrefl _ (F.xlt _ h)
theorem InFr.xN (F : InFr cx fc ns ρ ads σ s) : ∀ x ∈ fc.X ads, cx.N ≤ x := by
  intro x hx
  rcases List.mem_cons.mp hx with rfl | hx
  · exact F.lN
  · rcases List.mem_append.mp hx with hx | hx
    · obtain ⟨k, hk, rfl⟩ := List.getElem_of_mem hx
      have hk' : k < σ.length := by rw [← F.own.1]; exact hk
      exact (F.own.2.2 k _ _ (List.getElem?_eq_getElem hk) (List.getElem?_eq_getElem hk')).1
    · exact (F.fbs x hx).1

/-- the library's frame, with nothing below -/
theorem InFr.fr (F : InFr cx fc ns ρ ads σ s) : ∃ m, Fr {} fc.L s.heap m := by
  obtain ⟨m, h1, _⟩ := F.env
  exact ⟨m, h1, fun b o e => by simp [Heap.get?] at e, Nat.zero_le _⟩

abbrev Tr := List Slot → List (List PyData) → (PyData → Prop) → (Exn → Prop) → Prop
abbrev Ts := List Slot → List (List PyData) → (List PyData → Prop) → (Exn → Prop) → Prop
abbrev Tt := List Slot → List (List PyData) → (Bool → Prop) → (Exn → Prop) → Prop

/-- an exception in flight in this frame -/
def Exn.cls (cx : Cx) : Exn → Value
  | .zde => .type "ZeroDivisionError"
  | .cplx => .ref 52
def Flies (cx : Cx) (fc : Fc) (x : Exn) (u : Value) (h₀ : Heap) (S : List Addr) (s' : Shared) : Prop :=
  ∃ e w, u = .ref e ∧ cx.GI w s' ∧ HS (S ++ fc.fs) h₀ s'.heap ∧ (∀ b ∈ fc.fs, b ∉ S → ∀ o es n, h₀.get? b = some o → o.data = .dict es n → ∃ o', s'.heap.get? b = some o' ∧ o'.data = o.data) ∧
   ((∃ oe t, s'.heap.get? e = some oe ∧ oe.cls = x.cls cx ∧ oe.data = .fields #[t, .none, .none, .none, .bool false, .none] ∧ h₀.get? e = none ∧ ¬ cx.I e)
    ∨ (∃ B a0, Heap.FlyingW B (fc.env :: fc.outer) e (x.cls cx) a0 s'.heap ∧ (∀ b o, s'.heap.get? b = some o → (cx.I b ∨ b ∈ w) → B.get? b = some o) ∧ ∀ b o, h₀.get? b = some o → b ∉ fc.fs → ∃ o', B.get? b = some o' ∧ (¬ Tb o → b ∉ S → o' = o)))

theorem Flies.pre {x : Exn} {u : Value} {h₀ h₁ : Heap} {S S' : List Addr} (f : Flies cx fc x u h₁ S' s') (k : HS S h₀ h₁) (hS : ∀ b, (h₀.get? b).isSome → b ∈ S' → b ∈ S) : Flies cx fc x u h₀ S s' := by
  obtain ⟨e, w, rfl, fg, f1, f3, f2⟩ := f
  have hm : ∀ b o, h₀.get? b = some o → b ∉ S ++ fc.fs → b ∉ S' ++ fc.fs := fun b o hb hn q => hn ((List.mem_append.mp q).elim (fun q => List.mem_append_left _ (hS b (by rw [hb]; rfl) q)) fun q => List.mem_append_right _ q)
  refine ⟨e, w, rfl, fg, fun b o hb => ?_, fun b hb hs o es n ho hd => f3 b hb (fun q => hs (hS b (by rw [ho]; rfl) q)) o es n (k.get ho (not_tb_dict hd) hs) hd, ?_⟩
  · obtain ⟨o', h1, h2⟩ := k b o hb
    obtain ⟨o'', h3, h4⟩ := f1 b o' h1
    refine ⟨o'', h3, fun hn hs => ?_⟩
    have := h2 hn fun q => hs (List.mem_append_left _ q)
    subst this
    exact h4 hn (hm b _ hb hs)
  · rcases f2 with ⟨oe, t, h1, h2, h3, h4, h5⟩ | ⟨B, a0, h1, hw, h2⟩
    · refine .inl ⟨oe, t, h1, h2, h3, ?_, h5⟩
      cases q : h₀.get? e with
      | none => rfl
      | some o => obtain ⟨o', h5, _⟩ := k e o q; rw [h4] at h5; cases h5
    · refine .inr ⟨B, a0, h1, hw, fun b o hb hfs => ?_⟩
      obtain ⟨o', h3, h4⟩ := k b o hb
      obtain ⟨o'', h5, h6⟩ := h2 b o' h3 hfs
      refine ⟨o'', h5, fun hn hs => ?_⟩
      have := h4 hn hs; subst this
      exact h6 hn fun q => hs (hS b (by rw [hb]; rfl) q)
theorem Flies.hx {x : Exn} {u : Value} {h₀ h₁ : Heap} {S : List Addr} (f : Flies cx fc x u h₁ S s') (k : HX h₀ h₁) : Flies cx fc x u h₀ S s' := f.pre k.toHS fun _ _ q => q

/-- an expression's meaning -/
def SE (cx : Cx) (fc : Fc) (ns : List Str) (e : Expr) (t : Tr) : Prop :=
  ∀ ρ ads σ s Q X Q' E', InFr cx fc ns ρ ads σ s → t ρ σ Q X →
    (∀ u d s', Q d → InFr cx fc ns ρ ads σ s' → HX s.heap s'.heap → Rd s'.heap (fc.X ads) u d → Q' u s') →
    (∀ x u s', X x → InFr cx fc ns ρ ads σ s' → Flies cx fc x u s.heap [] s' → E' u s') →
    wpAny (model cx.prog cx.w) fc.A (eval e fc.env) Q' E' s

def SEs (cx : Cx) (fc : Fc) (ns : List Str) (es : List Expr) (t : Ts) : Prop :=
  ∀ ρ ads σ s Q X (Q' : List Value → Shared → Prop) E' pos, InFr cx fc ns ρ ads σ s → t ρ σ Q X →
    (∀ us ds s', Q ds → InFr cx fc ns ρ ads σ s' → HX s.heap s'.heap → Rds s'.heap (fc.X ads) us ds → Q' us s') →
    (∀ x u s', X x → InFr cx fc ns ρ ads σ s' → Flies cx fc x u s.heap [] s' → E' u s') →
    wpAny (model cx.prog cx.w) fc.A (spliced (backTo pos (starEach es fc.env))) Q' E' s

def ST (cx : Cx) (fc : Fc) (ns : List Str) (e : Expr) (t : Tt) : Prop :=
  ∀ ρ ads σ s Q X (Q' : Bool → Shared → Prop) E', InFr cx fc ns ρ ads σ s → t ρ σ Q X →
    (∀ b s', Q b → InFr cx fc ns ρ ads σ s' → HX s.heap s'.heap → Q' b s') →
    (∀ x u s', X x → InFr cx fc ns ρ ads σ s' → Flies cx fc x u s.heap [] s' → E' u s') →
    wpAny (model cx.prog cx.w) fc.A (isTrue e fc.env (eval e fc.env)) Q' E' s

section
variable {e e₁ e₂ l r : Expr} {es : List Expr} {t t₁ t₂ tl tr : Tr} {pos : Pos} {k : Nat}

def tInt (i : Int) : Tr := fun _ _ Q _ => Q (.int i)
theorem SE_int {i : Int} : SE cx fc ns (.Constant (.int i) k pos) (tInt i) := fun _ _ _ s _ _ _ _ F ht hQ _ =>
  wpAny_Constant_int (hQ _ _ _ ht (F.toks _) (HS.refl _ _) (.int _ _))
def tStr (i : Str) : Tr := fun _ _ Q _ => Q (.str i)
theorem SE_str {i : Str} : SE cx fc ns (.Constant (.str i) k pos) (tStr i) := fun _ _ _ s _ _ _ _ F ht hQ _ =>
  wpAny_Constant_str (hQ _ _ _ ht (F.toks _) (HS.refl _ _) (.str _ _))
def tBool (i : Bool) : Tr := fun _ _ Q _ => Q (.bool i)
theorem SE_bool {i : Bool} : SE cx fc ns (.Constant (.bool i) k pos) (tBool i) := fun _ _ _ s _ _ _ _ F ht hQ _ =>
  wpAny_Constant_bool (hQ _ _ _ ht F (HS.refl _ _) (.bool _))
def tNone : Tr := fun _ _ Q _ => Q .none
theorem SE_none : SE cx fc ns (.Constant .none k pos) tNone := fun _ _ _ s _ _ _ _ F ht hQ _ =>
  wpAny_Constant_none (hQ _ _ _ ht F (HS.refl _ _) .none)

def slotQ (sl : Slot) (Q : PyData → Prop) : Prop := match sl with | .val d => Q d | _ => False
def tName (i : Nat) : Tr := fun ρ _ Q _ => slotQ (ρ.getD i .undef) Q
theorem slot_get {i : Nat} {x : Str} {Q : PyData → Prop} (F : InFr cx fc ns ρ ads σ s) (hx : ns[i]? = some x) (ht : slotQ (ρ.getD i .undef) Q) :
    ∃ m u d, s.heap.Ns fc.L m ∧ m x = some u ∧ Q d ∧ Rd s.heap (fc.X ads) u d := by
  obtain ⟨m, h1, h2⟩ := F.env
  cases hr : ρ[i]? with
  | none => simp [List.getD, hr, slotQ] at ht
  | some sl =>
    have h3 := h2 i x sl hx hr
    cases sl with
    | undef => simp [List.getD, hr, slotQ] at ht
    | own k => simp [List.getD, hr, slotQ] at ht
    | val d =>
      simp only [List.getD, hr, Option.getD_some, slotQ] at ht
      obtain ⟨u, h4, h5⟩ := h3
      exact ⟨m, u, d, h1, h4, ht, h5⟩
theorem SE_name {i : Nat} {x : Str} (hx : ns[i]? = some x) (hd : (x == ("__debug__" : Str)) = false := by decide) : SE cx fc ns (.Name x pos) (tName i) := by
  intro ρ ads σ s Q X Q' E' F ht hQ _
  obtain ⟨m, u, d, h1, h2, h3, h4⟩ := slot_get F hx ht
  exact wpAny_Name (wpAny_loadName_local F.hk (F.nsl x (List.mem_of_getElem? hx)) h1 h2 (hQ _ _ _ h3 F (HS.refl _ _) h4)) hd

/-- a constant of the module's top -/
def tGlob (d : PyData) : Tr := fun _ _ Q _ => Q d
theorem SE_glob {x : Str} {v : Value} {d : PyData} (hx : fc.cs.names.lookup x = some .globalImplicit) (hv : nsIn cx.K mainGlobals x = some (some v))
    (hr : ∀ h X, cx.K.In h → (∀ b ∈ X, cx.N ≤ b) → Rd h X v d) (hd : (x == ("__debug__" : Str)) = false := by decide) : SE cx fc ns (.Name x pos) (tGlob d) := by
  intro ρ ads σ s Q X Q' E' F ht hQ _
  exact Name_function_global (env := fc.env) F.hk hx (loadGlobal_global (env := fc.env) F.top.g (mg_of F.kin F.top.g hv) (hQ _ _ _ ht F (HS.refl _ _) (hr _ _ F.kin F.xN))) hd
end
end Mine

namespace Mine
open PySem PySem.W PySem.Calls PyProof.Rows PySem.Spec
variable {cx : Cx} {fc : Fc} {ns : List Str} {ρ : List Slot} {ads : List Addr} {σ : List (List PyData)} {s s' : Shared}

abbrev bl (a : Int) : Nat := Builtin.Int.intBits a

/-- a two-place operation's meaning -/
def BinOK (cx : Cx) (f : Value → Value → Sem Value) (k : PyData → PyData → (PyData → Prop) → Prop) : Prop :=
  ∀ fc ns ρ ads σ s u v a b Q (Q' : Value → Shared → Prop) E', InFr cx fc ns ρ ads σ s → Rd s.heap (fc.X ads) u a → Rd s.heap (fc.X ads) v b → k a b Q →
    (∀ w d s', Q d → InFr cx fc ns ρ ads σ s' → HX s.heap s'.heap → Rd s'.heap (fc.X ads) w d → Q' w s') → wpAny (model cx.prog cx.w) fc.A (f u v) Q' E' s

def kI (c : Int → Int → Prop) (f : Int → Int → Int) : PyData → PyData → (PyData → Prop) → Prop
  | .int a, .int b, Q => c a b ∧ Q (.int (f a b))
  | _, _, _ => False
def kB (f : Int → Int → Bool) : PyData → PyData → (PyData → Prop) → Prop
  | .int a, .int b, Q => Q (.bool (f a b))
  | _, _, _ => False

theorem binI {c : Int → Int → Prop} {f : Int → Int → Int} {g : Value → Value → Sem Value}
    (h : ∀ (A : Around) (E : Value → Shared → Prop) (s : Shared) (a b : Int) (t u : Tok) (Q : Value → Shared → Prop), c a b → Q (.int (f a b) s.toks) { s with toks := s.toks + 1 } → wpAny (model cx.prog cx.w) A (g (.int a t) (.int b u)) Q E s) :
    BinOK cx g (kI c f) := by
  intro fc ns ρ ads σ s u v a b Q Q' E' F ra rb hk hQ
  cases a <;> (try exact hk.elim) <;> cases b <;> (try exact hk.elim)
  cases ra; cases rb
  exact h _ _ _ _ _ _ _ _ hk.1 (hQ _ _ _ hk.2 (F.toks _) (HS.refl _ _) (.int _ _))
theorem binB {f : Int → Int → Bool} {g : Value → Value → Sem Value}
    (h : ∀ (A : Around) (E : Value → Shared → Prop) (s : Shared) (a b : Int) (t u : Tok) (Q : Value → Shared → Prop), Q (.bool (f a b)) s → wpAny (model cx.prog cx.w) A (g (.int a t) (.int b u)) Q E s) :
    BinOK cx g (kB f) := by
  intro fc ns ρ ads σ s u v a b Q Q' E' F ra rb hk hQ
  cases a <;> (try exact hk.elim) <;> cases b <;> (try exact hk.elim)
  cases ra; cases rb
  exact h _ _ _ _ _ _ _ _ (hQ _ _ _ hk F (HS.refl _ _) (.bool _))

abbrev kSub := kI (fun _ _ => True) (fun a b => a - b)
abbrev kMul := kI (fun a b => bl a ≤ 2 ^ 20 ∧ bl b ≤ 2 ^ 20) (fun a b => a * b)
abbrev kDiv := kI (fun a b => b ≠ 0 ∧ bl b ≤ 9000) Int.fdiv
abbrev kMod := kI (fun a b => b ≠ 0) Int.fmod
abbrev kShl := kI (fun a n => 0 ≤ n ∧ (bl a : Int) + n ≤ 2 ^ 27) (fun a n => a * 2 ^ n.toNat)
abbrev kShr := kI (fun a n => 0 ≤ n) (fun a n => a.fdiv (2 ^ n.toNat))
abbrev kAnd := kI (fun _ _ => True) Builtin.bitAnd
abbrev kXor := kI (fun _ _ => True) Builtin.bitXor
abbrev kPow := kI (fun a n => 0 ≤ n ∧ (bl a : Int) * n ≤ 2 ^ 27) (fun a n => a ^ n.toNat)
abbrev kLt := kB (fun a b => decide (a < b))
abbrev kLe := kB (fun a b => decide (a ≤ b))
abbrev kGt := kB (fun a b => decide (b < a))
abbrev kGe := kB (fun a b => decide (b ≤ a))

theorem noPy {a b : Int} (h : bl b ≤ 9000) : Builtin.divisionGoesByPylong a b = false := by
  by_cases hb : b = 0
  · subst hb; exact PyProof.noPylong_small (by decide)
  · refine PyProof.noPylong_of_log2 ?_
    unfold bl Builtin.Int.intBits at h
    rw [if_neg (by simpa using hb)] at h
    omega

theorem b_sub : BinOK cx (binaryOp .Sub) kSub := binI fun _ _ _ _ _ _ _ _ _ h => sub_int h
theorem b_mul : BinOK cx (binaryOp .Mult) kMul := binI fun _ _ _ _ _ _ _ _ c h => mul_int h (IntMulOk.of_bits c.1 c.2)
theorem b_div : BinOK cx (binaryOp .FloorDiv) kDiv := binI fun _ _ _ _ _ _ _ _ c h => floordiv_int c.1 h (.inl (noPy c.2))
theorem b_mod : BinOK cx (binaryOp .Mod) kMod := binI fun _ _ _ _ _ _ _ _ c h => mod_int' c h
theorem b_shl : BinOK cx (binaryOp .LShift) kShl := binI fun _ _ _ _ _ _ _ _ c h => lshift_int c.1 c.2 h
theorem b_shr : BinOK cx (binaryOp .RShift) kShr := binI fun _ _ _ _ _ _ _ _ c h => rshift_int c h
theorem b_and : BinOK cx (binaryOp .BitAnd) kAnd := binI fun _ _ _ _ _ _ _ _ c h => and_int h
theorem b_xor : BinOK cx (binaryOp .BitXor) kXor := binI fun _ _ _ _ _ _ _ _ c h => xor_int h
theorem b_pow : BinOK cx (binaryOp .Pow) kPow := binI fun _ _ _ _ _ _ _ _ c h => pow_int c.1 c.2 h
abbrev kAdd := kI (fun _ _ => True) (fun a b => a + b)
theorem b_add : BinOK cx (binaryOp .Add) kAdd := binI fun _ _ _ _ _ _ _ _ c h => add_int h
theorem i_add : BinOK cx (inplaceOp .Add) kAdd := binI fun _ _ _ _ _ _ _ _ c h => iadd_int h
theorem i_sub : BinOK cx (inplaceOp .Sub) kSub := binI fun _ _ _ _ _ _ _ _ c h => isub_int h
theorem i_mul : BinOK cx (inplaceOp .Mult) kMul := binI fun _ _ _ _ _ _ _ _ c h => imul_int h (IntMulOk.of_bits c.1 c.2)
theorem i_shl : BinOK cx (inplaceOp .LShift) kShl := binI fun _ _ _ _ _ _ _ _ c h => ilshift_int c.1 c.2 h
theorem i_shr : BinOK cx (inplaceOp .RShift) kShr := binI fun _ _ _ _ _ _ _ _ c h => irshift_int c h
theorem i_xor : BinOK cx (inplaceOp .BitXor) kXor := binI fun _ _ _ _ _ _ _ _ c h => ixor_int h
theorem i_pow : BinOK cx (inplaceOp .Pow) kPow := binI fun _ _ _ _ _ _ _ _ c h => ipow_int c.1 c.2 h
theorem c_lt : BinOK cx (compareOp .Lt) kLt := binB fun _ _ _ _ _ _ _ _ h => lt_int h
theorem c_le : BinOK cx (compareOp .LtE) kLe := binB fun _ _ _ _ _ _ _ _ h => le_int h
theorem c_gt : BinOK cx (compareOp .Gt) kGt := binB fun _ _ _ _ _ _ _ _ h => gt_int h
theorem c_ge : BinOK cx (compareOp .GtE) kGe := binB fun _ _ _ _ _ _ _ _ h => ge_int h

def kEq : PyData → PyData → (PyData → Prop) → Prop := fun a b Q => SeqAt.shaped a = true ∧ SeqAt.shaped b = true ∧ Q (.bool (PyData.eqv a b))
def kNe : PyData → PyData → (PyData → Prop) → Prop := fun a b Q => SeqAt.shaped a = true ∧ SeqAt.shaped b = true ∧ Q (.bool (!PyData.eqv a b))
theorem c_eq : BinOK cx (compareOp .Eq) kEq := by
  intro fc ns ρ ads σ s u v a b Q Q' E' F ra rb hk hQ
  obtain ⟨as, r1⟩ := ra.reads
  obtain ⟨bs, r2⟩ := rb.reads
  exact eq_dataH r1 r2 hk.1 hk.2.1 (by have := F.rmu; show fc.un + 64 < cLine; omega) (hQ _ _ _ hk.2.2 F (HS.refl _ _) (.bool _))
theorem c_ne : BinOK cx (compareOp .NotEq) kNe := by
  intro fc ns ρ ads σ s u v a b Q Q' E' F ra rb hk hQ
  obtain ⟨as, r1⟩ := ra.reads
  obtain ⟨bs, r2⟩ := rb.reads
  exact ne_dataH r1 r2 hk.1 hk.2.1 (by have := F.rmu; show fc.un + 64 < cLine; omega) (hQ _ _ _ hk.2.2 F (HS.refl _ _) (.bool _))

def kInStr : PyData → PyData → (PyData → Prop) → Prop
  | .str y, .str x, Q => Q (.bool (!(Builtin.Str.occurrences x y 0 x.length 1).isEmpty))
  | _, _, _ => False
theorem c_in_str : BinOK cx (compareOp .In) kInStr := by
  intro fc ns ρ ads σ s u v a b Q Q' E' F ra rb hk hQ
  cases a <;> (try exact hk.elim) <;> cases b <;> (try exact hk.elim)
  cases ra; cases rb
  exact PySem.P.in_str (hQ _ _ _ hk F (HS.refl _ _) (.bool _))

section
variable {e e₁ e₂ l r : Expr} {es : List Expr} {t t₁ t₂ tl tr : Tr} {tt tt₁ tt₂ : Tt} {ts : Ts} {pos : Pos} {k : Nat} {kk : PyData → PyData → (PyData → Prop) → Prop}

theorem SE_false : SE cx fc ns e (fun _ _ _ _ => False) := fun _ _ _ _ _ _ _ _ _ h => h.elim

def tBin (kk : PyData → PyData → (PyData → Prop) → Prop) (tl tr : Tr) : Tr := fun ρ σ Q X => tl ρ σ (fun a => tr ρ σ (fun b => kk a b Q) X) X
theorem bin_two {f : Value → Value → Sem Value} (h : BinOK cx f kk) (hl : SE cx fc ns l tl) (hr : SE cx fc ns r tr) {Q X} {Q' : Value → Shared → Prop} {E'} (F : InFr cx fc ns ρ ads σ s) (ht : tBin kk tl tr ρ σ Q X)
    (hQ : ∀ u d s', Q d → InFr cx fc ns ρ ads σ s' → HX s.heap s'.heap → Rd s'.heap (fc.X ads) u d → Q' u s')
    (hX : ∀ x u s', X x → InFr cx fc ns ρ ads σ s' → Flies cx fc x u s.heap [] s' → E' u s') :
    wpAny (model cx.prog cx.w) fc.A (eval l fc.env) (fun a s₁ => wpAny (model cx.prog cx.w) fc.A (eval r fc.env) (fun b s₂ => wpAny (model cx.prog cx.w) fc.A (f a b) Q' E' s₂) E' s₁) E' s :=
  hl _ _ _ _ _ _ _ _ F ht (fun u a s₁ h₁ F₁ k₁ r₁ => hr _ _ _ _ _ _ _ _ F₁ h₁ (fun v b s₂ h₂ F₂ k₂ r₂ => h _ _ _ _ _ _ _ _ _ _ _ _ _ F₂ (r₁.hx k₂) r₂ h₂ fun w d s₃ q F₃ k₃ r₃ => hQ w d s₃ q F₃ ((k₁.trans k₂).trans k₃) r₃)
    fun x u s' hx F' fl => hX x u s' hx F' (fl.hx k₁)) hX
theorem SE_bin {op : Operator} (h : BinOK cx (binaryOp op) kk) (hl : SE cx fc ns l tl) (hr : SE cx fc ns r tr) : SE cx fc ns (.BinOp l op r pos) (tBin kk tl tr) :=
  fun _ _ _ _ _ _ _ _ F ht hQ hX => wpAny_BinOp (bin_two h hl hr F ht hQ hX)
theorem SE_cmp {op : CmpOp} (h : BinOK cx (compareOp op) kk) (hl : SE cx fc ns l tl) (hr : SE cx fc ns r tr) (hm : behindInMarks op r = false) : SE cx fc ns (.Compare l [op] [r] pos) (tBin kk tl tr) :=
  fun _ _ _ _ _ _ _ _ F ht hQ hX => wpAny_Compare1 (bin_two h hl hr F ht hQ hX) hm

def boolQ (d : PyData) (Q : Bool → Prop) : Prop := match d with | .bool b => Q b | _ => False
def tTest (t : Tr) : Tt := fun ρ σ Q X => t ρ σ (fun d => boolQ d Q) X
theorem ST_cmp {op : CmpOp} (h : BinOK cx (compareOp op) kk) (hl : SE cx fc ns l tl) (hr : SE cx fc ns r tr) (hm : behindInMarks op r = false) : ST cx fc ns (.Compare l [op] [r] pos) (tTest (tBin kk tl tr)) := by
  intro ρ ads σ s Q X Q' E' F ht hQ hX
  refine wpAny_isTrue_Compare1 (bin_two (f := fun a b => compareOp op a b) (Q' := fun c s₃ => wpAny (model cx.prog cx.w) fc.A (truthy c) Q' E' s₃) h hl hr F ht (fun u d s' hd F' k' r' => ?_) hX) hm
  cases d <;> (try exact hd.elim)
  cases r'
  exact wpAny_truthy_bool (hQ _ _ hd F' k')

def truthQ (d : PyData) (Q : Bool → Prop) : Prop := match d with
  | .bool b => Q b
  | .int i => Q (i != 0)
  | .none => Q false
  | .tuple xs => xs.length < 1000000 ∧ Q (!xs.isEmpty)
  | _ => False
theorem truthy_ok {u : Value} {d : PyData} {Q : Bool → Prop} {Q' : Bool → Shared → Prop} {E'} (F : InFr cx fc ns ρ ads σ s) (r : Rd s.heap (fc.X ads) u d) (ht : truthQ d Q)
    (hQ : ∀ b s', Q b → InFr cx fc ns ρ ads σ s' → HX s.heap s'.heap → Q' b s') : wpAny (model cx.prog cx.w) fc.A (truthy u) Q' E' s := by
  cases r with
  | none => exact truthy_none (hQ _ _ ht F (HS.refl _ _))
  | bool b => exact wpAny_truthy_bool (hQ _ _ ht F (HS.refl _ _))
  | int i t => exact truthy_int (hQ _ _ ht F (HS.refl _ _))
  | str x t => exact ht.elim
  | list _ _ _ _ _ => exact ht.elim
  | @tuple a o vs n xs ho hc hd hx rs =>
    have hl := rs.length
    have hsz : vs.size = xs.length := by simpa using hl
    refine truthy_tuple ⟨o, ho, hc, n, hd⟩ (by have := ht.1; omega) (hQ _ _ ?_ (F.toks _) (HS.refl _ _))
    have e : vs.isEmpty = xs.isEmpty := by
      rw [Bool.eq_iff_iff, Array.isEmpty_iff_size_eq_zero, List.isEmpty_iff_length_eq_zero, hsz]
    rw [e]; exact ht.2

def tTruth (t : Tr) : Tt := fun ρ σ Q X => t ρ σ (fun d => truthQ d Q) X
theorem ST_val (h : SE cx fc ns e t) (he : isTrue e fc.env (eval e fc.env) = (do let v ← eval e fc.env; standAt e.pos; holding [v] (truthy v)) := by rfl) : ST cx fc ns e (tTruth t) :=
  fun _ _ _ _ _ _ _ _ F ht hQ hX => wpAny_isTrue_value (h _ _ _ _ _ _ _ _ F ht (fun u d s' hd F' k' r' => truthy_ok F' r' hd fun b s₂ hb F₂ k₂ => hQ b s₂ hb F₂ (k'.trans k₂)) hX) he

def tNotT (t : Tt) : Tt := fun ρ σ Q X => t ρ σ (fun b => Q (!b)) X
theorem ST_not (h : ST cx fc ns e tt) : ST cx fc ns (.UnaryOp .Not e pos) (tNotT tt) :=
  fun _ _ _ _ _ _ _ _ F ht hQ hX => wpAny_isTrue_Not (h _ _ _ _ _ _ _ _ F ht (fun b s' hb F' k' => hQ _ s' hb F' k') hX)

def STs (cx : Cx) (fc : Fc) (ns : List Str) (op : BoolOp) (es : List Expr) (t : Tt) : Prop :=
  ∀ ρ ads σ s Q X (Q' : Bool → Shared → Prop) E', InFr cx fc ns ρ ads σ s → t ρ σ Q X →
    (∀ b s', Q b → InFr cx fc ns ρ ads σ s' → HX s.heap s'.heap → Q' b s') →
    (∀ x u s', X x → InFr cx fc ns ρ ads σ s' → Flies cx fc x u s.heap [] s' → E' u s') →
    wpAny (model cx.prog cx.w) fc.A (allTrue op es fc.env) Q' E' s
def tTrue : Tt := fun _ _ Q _ => Q true
def tFalse : Tt := fun _ _ Q _ => Q false
def tAndT (a b : Tt) : Tt := fun ρ σ Q X => a ρ σ (fun x => (x = true → b ρ σ Q X) ∧ (x = false → Q false)) X
def tOrT (a b : Tt) : Tt := fun ρ σ Q X => a ρ σ (fun x => (x = true → Q true) ∧ (x = false → b ρ σ Q X)) X
theorem STs_and_nil : STs cx fc ns .And [] tTrue := fun _ _ _ _ _ _ _ _ F ht hQ _ => wpAny_allTrue_And_nil (hQ _ _ ht F (HS.refl _ _))
theorem STs_or_nil : STs cx fc ns .Or [] tFalse := fun _ _ _ _ _ _ _ _ F ht hQ _ => wpAny_allTrue_Or_nil (hQ _ _ ht F (HS.refl _ _))
theorem STs_and_cons (h : ST cx fc ns e tt₁) (h' : STs cx fc ns .And es tt₂) : STs cx fc ns .And (e :: es) (tAndT tt₁ tt₂) :=
  fun _ _ _ _ _ _ _ _ F ht hQ hX => wpAny_allTrue_And_cons (h _ _ _ _ _ _ _ _ F ht (fun b s' hb F' k' => by
    cases b with
    | true => exact h' _ _ _ _ _ _ _ _ F' (hb.1 rfl) (fun b s₂ hb F₂ k₂ => hQ b s₂ hb F₂ (k'.trans k₂)) fun x u s₂ hx F₂ fl => hX x u s₂ hx F₂ (fl.hx k')
    | false => exact hQ _ _ (hb.2 rfl) F' k') hX)
theorem STs_or_cons (h : ST cx fc ns e tt₁) (h' : STs cx fc ns .Or es tt₂) : STs cx fc ns .Or (e :: es) (tOrT tt₁ tt₂) :=
  fun _ _ _ _ _ _ _ _ F ht hQ hX => wpAny_allTrue_Or_cons (h _ _ _ _ _ _ _ _ F ht (fun b s' hb F' k' => by
    cases b with
    | false => exact h' _ _ _ _ _ _ _ _ F' (hb.2 rfl) (fun b s₂ hb F₂ k₂ => hQ b s₂ hb F₂ (k'.trans k₂)) fun x u s₂ hx F₂ fl => hX x u s₂ hx F₂ (fl.hx k')
    | true => exact hQ _ _ (hb.1 rfl) F' k') hX)
theorem ST_bool {op : BoolOp} (h : STs cx fc ns op es tt) : ST cx fc ns (.BoolOp op es pos) tt :=
  fun _ _ _ _ _ _ _ _ F ht hQ hX => wpAny_isTrue_BoolOp (h _ _ _ _ _ _ _ _ F ht hQ hX)

def tIfE (c : Tt) (a b : Tr) : Tr := fun ρ σ Q X => c ρ σ (fun x => (x = true → a ρ σ Q X) ∧ (x = false → b ρ σ Q X)) X
theorem SE_if (h : ST cx fc ns e tt) (h₁ : SE cx fc ns e₁ t₁) (h₂ : SE cx fc ns e₂ t₂) : SE cx fc ns (.IfExp e e₁ e₂ pos) (tIfE tt t₁ t₂) :=
  fun _ _ _ _ _ _ _ _ F ht hQ hX => wpAny_IfExp (h _ _ _ _ _ _ _ _ F ht (fun b s' hb F' k' => by
    cases b with
    | true => exact h₁ _ _ _ _ _ _ _ _ F' (hb.1 rfl) (fun u d s₂ hd F₂ k₂ r₂ => hQ u d s₂ hd F₂ (k'.trans k₂) r₂) fun x u s₂ hx F₂ fl => hX x u s₂ hx F₂ (fl.hx k')
    | false => exact h₂ _ _ _ _ _ _ _ _ F' (hb.2 rfl) (fun u d s₂ hd F₂ k₂ r₂ => hQ u d s₂ hd F₂ (k'.trans k₂) r₂) fun x u s₂ hx F₂ fl => hX x u s₂ hx F₂ (fl.hx k')) hX)

def intQ (d : PyData) (Q : Int → Prop) : Prop := match d with | .int i => Q i | _ => False
def tNeg (t : Tr) : Tr := fun ρ σ Q X => t ρ σ (fun d => intQ d fun i => Q (.int (-i))) X
theorem SE_neg (h : SE cx fc ns e t) : SE cx fc ns (.UnaryOp .USub e pos) (tNeg t) :=
  fun _ _ _ _ _ _ _ _ F ht hQ hX => wpAny_UnaryOp (h _ _ _ _ _ _ _ _ F ht (fun u d s' hd F' k' r' => by
    cases d <;> (try exact hd.elim)
    cases r'
    exact neg_int (hQ _ _ _ hd (F'.toks _) k' (.int _ _))) hX)
def tNot (t : Tr) : Tr := fun ρ σ Q X => t ρ σ (fun d => truthQ d fun b => Q (.bool (!b))) X
theorem SE_not (h : SE cx fc ns e t) : SE cx fc ns (.UnaryOp .Not e pos) (tNot t) :=
  fun _ _ _ _ _ _ _ _ F ht hQ hX => wpAny_UnaryOp (h _ _ _ _ _ _ _ _ F ht (fun u d s' hd F' k' r' =>
    not_of (truthy_ok F' r' hd fun b s₂ hb F₂ k₂ => hQ _ _ _ hb F₂ (k'.trans k₂) (.bool _))) hX)

def tOr (a b : Tr) : Tr := fun ρ σ Q X => a ρ σ (fun d => truthQ d fun x => (x = true → Q d) ∧ (x = false → b ρ σ Q X)) X
def tAnd (a b : Tr) : Tr := fun ρ σ Q X => a ρ σ (fun d => truthQ d fun x => (x = true → b ρ σ Q X) ∧ (x = false → Q d)) X
theorem SE_one {op : BoolOp} (h : SE cx fc ns e t) : SE cx fc ns (.BoolOp op [e] pos) t :=
  fun _ _ _ _ _ _ _ _ F ht hQ hX => BoolOp_one (h _ _ _ _ _ _ _ _ F ht hQ hX)
theorem SE_or (h : SE cx fc ns e t) (h' : SE cx fc ns (.BoolOp .Or (e₂ :: es) pos) t₂) : SE cx fc ns (.BoolOp .Or (e :: e₂ :: es) pos) (tOr t t₂) :=
  fun _ _ _ _ _ _ _ _ F ht hQ hX => BoolOp_or (h _ _ _ _ _ _ _ _ F ht (fun u d s' hd F' k' r' => truthy_ok F' r' hd fun b s₂ hb F₂ k₂ => by
    cases b with
    | true => exact hQ _ _ _ (hb.1 rfl) F₂ (k'.trans k₂) (r'.hx k₂)
    | false => exact h' _ _ _ _ _ _ _ _ F₂ (hb.2 rfl) (fun u d s₃ hd F₃ k₃ r₃ => hQ u d s₃ hd F₃ ((k'.trans k₂).trans k₃) r₃) fun x u s₃ hx F₃ fl => hX x u s₃ hx F₃ (fl.hx (k'.trans k₂))) hX)
theorem SE_and (h : SE cx fc ns e t) (h' : SE cx fc ns (.BoolOp .And (e₂ :: es) pos) t₂) : SE cx fc ns (.BoolOp .And (e :: e₂ :: es) pos) (tAnd t t₂) :=
  fun _ _ _ _ _ _ _ _ F ht hQ hX => BoolOp_and (h _ _ _ _ _ _ _ _ F ht (fun u d s' hd F' k' r' => truthy_ok F' r' hd fun b s₂ hb F₂ k₂ => by
    cases b with
    | false => exact hQ _ _ _ (hb.2 rfl) F₂ (k'.trans k₂) (r'.hx k₂)
    | true => exact h' _ _ _ _ _ _ _ _ F₂ (hb.1 rfl) (fun u d s₃ hd F₃ k₃ r₃ => hQ u d s₃ hd F₃ ((k'.trans k₂).trans k₃) r₃) fun x u s₃ hx F₃ fl => hX x u s₃ hx F₃ (fl.hx (k'.trans k₂))) hX)

def tNil : Ts := fun _ _ Q _ => Q []
def tCons (a : Tr) (b : Ts) : Ts := fun ρ σ Q X => a ρ σ (fun d => b ρ σ (fun ds => Q (d :: ds)) X) X
theorem SEs_nil : SEs cx fc ns [] tNil := fun _ _ _ _ _ _ _ _ _ F ht hQ _ => wpAny_items_nil (hQ _ _ _ ht F (HS.refl _ _) .nil)
theorem SEs_cons (h : SE cx fc ns e t) (h' : SEs cx fc ns es ts) (he : starEach (e :: es) fc.env = (false, eval e fc.env) :: starEach es fc.env := by rfl) : SEs cx fc ns (e :: es) (tCons t ts) :=
  fun _ _ _ _ _ _ _ _ _ F ht hQ hX => wpAny_items_cons (h _ _ _ _ _ _ _ _ F ht (fun u d s' hd F' k' r' => h' _ _ _ _ _ _ _ _ _ F' hd (fun us ds s₂ hds F₂ k₂ r₂ => hQ _ _ _ hds F₂ (k'.trans k₂) (.cons (r'.hx k₂) r₂))
    fun x u s₂ hx F₂ fl => hX x u s₂ hx F₂ (fl.hx k')) hX) he

def tTup (ts : Ts) : Tr := fun ρ σ Q X => ts ρ σ (fun ds => ds.length ≤ 1000 ∧ Q (.tuple ds)) X
theorem new_seq {cls : String} {us : List Value} {ds : List PyData} (F : InFr cx fc ns ρ ads σ s) (r : Rds s.heap (fc.X ads) us ds) :
    Rds (s.heap.push { cls := .type cls, data := .seq us.toArray }) (fc.X ads) us ds := r.hx (HX.of_keep fun _ _ e => Heap.get?_push_of_some _ e)
theorem SE_tup (h : SEs cx fc ns es ts) : SE cx fc ns (.Tuple es k pos) (tTup ts) :=
  fun _ _ _ _ _ _ _ _ F ht hQ hX => PySem.wpAny_Tuple (h _ _ _ _ _ _ _ _ _ F ht (fun us ds s' hd F' k' r' => ⟨by rw [r'.length, sizeLine_eq]; have := hd.1; omega,
    hQ _ _ _ hd.2 (F'.push _) (k'.trans (HX.of_keep fun _ _ e => Heap.get?_push_of_some _ e)) (.tuple (Heap.get?_push_size _ rfl) rfl rfl F'.newX (new_seq F' r'))⟩) hX)
def tList (ts : Ts) : Tr := fun ρ σ Q X => ts ρ σ (fun ds => ds.length ≤ 1000 ∧ Q (.list ds)) X
theorem SE_list (h : SEs cx fc ns es ts) : SE cx fc ns (.List es pos) (tList ts) :=
  fun _ _ _ _ _ _ _ _ F ht hQ hX => PySem.wpAny_List (h _ _ _ _ _ _ _ _ _ F ht (fun us ds s' hd F' k' r' => ⟨by rw [r'.length, sizeLine_eq]; have := hd.1; omega,
    hQ _ _ _ hd.2 (F'.push _) (k'.trans (HX.of_keep fun _ _ e => Heap.get?_push_of_some _ e)) (.list (Heap.get?_push_size _ rfl) rfl rfl F'.newX (new_seq F' r'))⟩) hX)
end
end Mine

namespace Mine
open PySem PySem.W PySem.Calls PyProof.Rows PySem.Spec
variable {cx : Cx} {fc : Fc} {ns : List Str} {ρ : List Slot} {ads : List Addr} {σ : List (List PyData)} {s s' : Shared}
variable {e e₁ e₂ l r value slice : Expr} {es : List Expr} {t t₁ t₂ tl tr : Tr} {tt tt₁ tt₂ : Tt} {ts : Ts} {p pos apos : Pos} {k : Nat} {kk : PyData → PyData → (PyData → Prop) → Prop}

/-! places -/
def idxQ (ds : List PyData) (k : Int) (Q : PyData → Prop) : Prop := 0 ≤ k ∧ k < 1000000 ∧ ∃ d, ds[k.toNat]? = some d ∧ Q d
def subQ : PyData → PyData → (PyData → Prop) → Prop
  | .tuple ds, .int k, Q => idxQ ds k Q
  | .list ds, .int k, Q => idxQ ds k Q
  | .str x, .int k, Q => 0 ≤ k ∧ k < 1000000 ∧ ∃ c, x.cps[k.toNat]? = some c ∧ Q (.str ⟨#[c]⟩)
  | _, _, _ => False
/-- a slice expression that is no Slice -/
def PlainSlice (slice : Expr) : Prop := ∀ o i, subscripted slice false o i = operate [o, i] (getItem o i)

theorem seqIndex_nonneg {k : Int} {n : Nat} (h0 : 0 ≤ k) (h1 : k.toNat < n) : seqIndex? k n = some k.toNat := by
  have h2 : ¬ k < 0 := by omega
  have h3 : k < (n : Int) := by omega
  simp [seqIndex?, h2, h0, h3]

theorem sub_ok {o i : Value} {a b : PyData} {Q : PyData → Prop} {Q' : Value → Shared → Prop} {E'} (F : InFr cx fc ns ρ ads σ s) (ro : Rd s.heap (fc.X ads) o a) (ri : Rd s.heap (fc.X ads) i b) (hs : PlainSlice slice) (ht : subQ a b Q)
    (hQ : ∀ u d s', Q d → InFr cx fc ns ρ ads σ s' → HX s.heap s'.heap → Rd s'.heap (fc.X ads) u d → Q' u s') :
    wpAny (model cx.prog cx.w) fc.A (subscriptTail value slice o i) Q' E' s := by
  cases b <;> (try (cases a <;> exact ht.elim))
  rename_i kI
  cases ri with
  | int _ tk =>
  cases ro with
  | none => exact ht.elim
  | bool _ => exact ht.elim
  | int _ _ => exact ht.elim
  | str x t =>
    obtain ⟨h0, h1, c, hc, hq⟩ := ht
    have hlt : kI.toNat < x.cps.size := (Array.getElem?_eq_some_iff.mp hc).1
    refine tail_any (typeIs_str _ _ _) PySem.F.slot_str_getitem.lookup (PySem.P.getItem_str (c := c) ?_ ?_ (hQ _ _ _ hq (F.toks _) (HS.refl _ _) (.str _ _))) (hs _ _)
    · simp; omega
    · rw [seqIndex_nonneg (n := x.length) h0 hlt]; exact hc
  | @list a o vs n xs ho hc hd hx rs =>
    obtain ⟨h0, h1, d, hdd, hq⟩ := ht
    obtain ⟨u, hu, ru⟩ := rs.get _ _ hdd
    exact tail_any (T := "list") ⟨_, ho, hc⟩ slot_list_getitem.lookup (wpAny_getItem_list ⟨o, ho, hc, n, hd⟩ h0 (by omega) (by simpa using hu) (hQ _ _ _ hq F (HS.refl _ _) ru)) (hs _ _)
  | @tuple a o vs n xs ho hc hd hx rs =>
    obtain ⟨h0, h1, d, hdd, hq⟩ := ht
    obtain ⟨u, hu, ru⟩ := rs.get _ _ hdd
    have hlt : kI.toNat < vs.toList.length := (List.getElem?_eq_some_iff.mp hu).1
    exact tail_any (T := "tuple") ⟨_, ho, hc⟩ slot_tuple_getitem.lookup (getItem_tuple (j := kI.toNat) ⟨o, ho, hc, n, hd⟩ (by omega) (by omega) (seqIndex_nonneg h0 (by simpa using hlt)) (by simpa using hu) (hQ _ _ _ hq F (HS.refl _ _) ru)) (hs _ _)

def tSub (a b : Tr) : Tr := fun ρ σ Q X => a ρ σ (fun d => b ρ σ (fun d' => subQ d d' Q) X) X
theorem SE_sub (hv : SE cx fc ns value t₁) (hi : SE cx fc ns slice t₂) (hs : PlainSlice slice) : SE cx fc ns (.Subscript value slice pos) (tSub t₁ t₂) :=
  fun _ _ _ _ _ _ _ _ F ht hQ hX => Subscript_ (hv _ _ _ _ _ _ _ _ F ht (fun u d s₁ h₁ F₁ k₁ r₁ => hi _ _ _ _ _ _ _ _ F₁ h₁ (fun v d' s₂ h₂ F₂ k₂ r₂ =>
    sub_ok F₂ (r₁.hx k₂) r₂ hs h₂ fun u d s₃ hq F₃ k₃ r₃ => hQ u d s₃ hq F₃ ((k₁.trans k₂).trans k₃) r₃) fun x u s' hx F' fl => hX x u s' hx F' (fl.hx k₁)) hX)

/-- an entry of a dict of the top -/
def DictHas (cx : Cx) (a : Addr) (x : Str) (d : PyData) : Prop := ∃ v, nsIn cx.K a x = some (some v) ∧ ∀ h X, cx.K.In h → (∀ b ∈ X, cx.N ≤ b) → Rd h X v d
def strQ (d : PyData) (Q : Str → Prop) : Prop := match d with | .str x => Q x | _ => False
def tDict (cx : Cx) (a : Addr) (b : Tr) : Tr := fun ρ σ Q X => b ρ σ (fun d => strQ d fun x => ∃ d', DictHas cx a x d' ∧ Q d') X
theorem SE_dict {x : Str} {a : Addr} {ds : Array DictEntry} {n : Nat} (hx : fc.cs.names.lookup x = some .globalImplicit) (hv : nsIn cx.K mainGlobals x = some (some (.ref a)))
    (hl : cx.K.lookup a = some ⟨.type "dict", none, .dict ds n, #[]⟩) (hk : KeysLit cx.w.params ds.toList) (hi : SE cx fc ns slice t) (hs : PlainSlice slice) (hd : (x == ("__debug__" : Str)) = false := by decide) :
    SE cx fc ns (.Subscript (.Name x p) slice pos) (tDict cx a t) := by
  intro ρ ads σ s Q X Q' E' F ht hQ hX
  refine Subscript_ (Name_function_global (env := fc.env) F.hk hx (loadGlobal_global (env := fc.env) F.top.g (mg_of F.kin F.top.g hv) ?_) hd)
  refine hi _ _ _ _ _ _ _ _ F ht (fun u d s₁ h₁ F₁ k₁ r₁ => ?_) hX
  cases d <;> (try exact h₁.elim)
  rename_i y
  obtain ⟨d', ⟨v, hn, hr⟩, hq⟩ := h₁
  cases r₁ with
  | str _ tk =>
  have hm := mapOf_K (prog := cx.prog) F₁.kin hl hk
  exact tail_any hm.typeIs slot_dict_getitem.lookup (wpAny_getItem_of (strKind_is cx.prog cx.w y tk) hm (find_K hl hn) (hQ _ _ _ hq (F₁.toks _) k₁ (hr _ _ F₁.kin F₁.xN))) (hs _ _)

/-! bit_length -/
def tBl (t : Tr) : Tr := fun ρ σ Q X => t ρ σ (fun d => intQ d fun i => Q (.int (bl i : Nat))) X
theorem SE_bl (ho : SE cx fc ns e t) (hbase : attributeBase e (Str.ofString "bit_length") fc.env (eval e fc.env) = eval e fc.env) (hline : (apos.endLine == pos.line) = true) :
    SE cx fc ns (.Call (.Attribute e (Str.ofString "bit_length") apos) [] [] pos) (tBl t) := by
  intro ρ ads σ s Q X Q' E' F ht hQ hX
  refine PySem.wpAny_Call_method hbase rfl hline PySem.F.plainAttrs_int PySem.F.slot_int_bit_length PySem.F.type_int_bit_length (ho _ _ _ _ _ _ _ _ F ht (fun u d s₁ h₁ F₁ k₁ r₁ => ?_) hX)
  cases d <;> (try exact h₁.elim)
  cases r₁ with
  | int i tk =>
  refine ⟨typeIs_int _ _ _, (fun _ q => nomatch q), ?_⟩
  exact callWith_builtin rfl (PySem.evalArgs_none (call_int_bit_length (hQ _ _ _ h₁ (F₁.toks _) k₁ (.int _ _))))

/-! built-ins of the top -/
def BCall (cx : Cx) (f : Value) (kc : List PyData → (PyData → Prop) → Prop) : Prop :=
  ∀ fc ns ρ ads σ s us ds Q (Q' : Value → Shared → Prop) E', InFr cx fc ns ρ ads σ s → Rds s.heap (fc.X ads) us ds → kc ds Q →
    (∀ w d s', Q d → InFr cx fc ns ρ ads σ s' → HX s.heap s'.heap → Rd s'.heap (fc.X ads) w d → Q' w s') → wpAny (model cx.prog cx.w) fc.A (call f us) Q' E' s

theorem name_boot {x : Str} {v : Value} {Q' : Value → Shared → Prop} {E'} (F : InFr cx fc ns ρ ads σ s) (hx : fc.cs.names.lookup x = some .globalImplicit) (hno : nsIn cx.K mainGlobals x = some none) (hb : bootBuiltins x = some v) (hn : x ≠ "__name__")
    (hd : (x == ("__debug__" : Str)) = false) (h : Q' v s) : wpAny (model cx.prog cx.w) fc.A (eval (.Name x p) fc.env) Q' E' s :=
  Name_function_global (env := fc.env) F.hk hx (loadGlobal_builtin (env := fc.env) F.top.g (mg_none_of F.kin F.top.g hno) F.top.b ((F.top.builtins x hn).trans hb) h) hd

def tB (kc : List PyData → (PyData → Prop) → Prop) (ts : Ts) : Tr := fun ρ σ Q X => ts ρ σ (fun ds => kc ds Q) X
variable {kc : List PyData → (PyData → Prop) → Prop}
theorem SE_bcall {x : Str} {id : String} (hx : fc.cs.names.lookup x = some .globalImplicit) (hno : nsIn cx.K mainGlobals x = some none) (hb : bootBuiltins x = some (.builtin id)) (hc : BCall cx (.builtin id) kc) (hs : SEs cx fc ns (e :: es) ts)
    (he : starEach (e :: es) fc.env = (false, eval e fc.env) :: starEach es fc.env := by rfl) (hp : (backTo pos (starEach es fc.env)).any (·.1) = false := by rfl) (hn : x ≠ "__name__" := by decide) (hd : (x == ("__debug__" : Str)) = false := by decide) :
    SE cx fc ns (.Call (.Name x p) (e :: es) [] pos) (tB kc ts) := fun _ _ _ _ _ _ _ _ F ht hQ hX =>
  Call_ (name_boot F hx hno hb hn hd (PyProof.Rows.callWith_builtin1 (hs _ _ _ _ _ _ _ _ _ F ht (fun us ds s₁ h₁ F₁ k₁ r₁ => hc _ _ _ _ _ _ _ _ _ _ _ F₁ r₁ h₁ fun w d s₂ hq F₂ k₂ r₂ => hQ w d s₂ hq F₂ (k₁.trans k₂) r₂) hX) he hp))
theorem SE_tcall {x : Str} {T : String} (hx : fc.cs.names.lookup x = some .globalImplicit) (hno : nsIn cx.K mainGlobals x = some none) (hb : bootBuiltins x = some (.type T)) (hc : BCall cx (.type T) kc) (hs : SEs cx fc ns (e :: es) ts)
    (he : starEach (e :: es) fc.env = (false, eval e fc.env) :: starEach es fc.env := by rfl) (hp : (backTo pos (starEach es fc.env)).any (·.1) = false := by rfl) (hn : x ≠ "__name__" := by decide) (hd : (x == ("__debug__" : Str)) = false := by decide) :
    SE cx fc ns (.Call (.Name x p) (e :: es) [] pos) (tB kc ts) := fun _ _ _ _ _ _ _ _ F ht hQ hX =>
  Call_ (name_boot F hx hno hb hn hd (PyProof.Rows.callWith_type1 (hs _ _ _ _ _ _ _ _ _ F ht (fun us ds s₁ h₁ F₁ k₁ r₁ => hc _ _ _ _ _ _ _ _ _ _ _ F₁ r₁ h₁ fun w d s₂ hq F₂ k₂ r₂ => hQ w d s₂ hq F₂ (k₁.trans k₂) r₂) hX) he hp))

def kAbs : List PyData → (PyData → Prop) → Prop
  | [.int a], Q => Q (.int (if a < 0 then -a else a))
  | _, _ => False
def kMin : List PyData → (PyData → Prop) → Prop
  | [.int a, .int b], Q => Q (.int (if b < a then b else a))
  | _, _ => False
def kMax : List PyData → (PyData → Prop) → Prop
  | [.int a, .int b], Q => Q (.int (if b > a then b else a))
  | _, _ => False
def kDivmod : List PyData → (PyData → Prop) → Prop
  | [.int a, .int b], Q => b ≠ 0 ∧ bl b ≤ 9000 ∧ Q (.tuple [.int (a.fdiv b), .int (a.fmod b)])
  | _, _ => False
def kInt : List PyData → (PyData → Prop) → Prop
  | [.int a], Q => Q (.int a)
  | _, _ => False

theorem one_of {h : Heap} {X us d} (r : Rds h X us [d]) : ∃ u, us = [u] ∧ Rd h X u d := by
  cases r with | cons r1 r2 => cases r2; exact ⟨_, rfl, r1⟩
theorem two_of {h : Heap} {X us d e} (r : Rds h X us [d, e]) : ∃ u v, us = [u, v] ∧ Rd h X u d ∧ Rd h X v e := by
  cases r with | cons r1 r2 => obtain ⟨v, rfl, r3⟩ := one_of r2; exact ⟨_, _, rfl, r1, r3⟩

theorem bc_abs : BCall cx (.builtin "abs") kAbs := by
  intro fc ns ρ ads σ s us ds Q Q' E' F r hk hQ
  unfold kAbs at hk
  split at hk
  · obtain ⟨u, rfl, r1⟩ := one_of r
    cases r1
    exact call_abs_int fun _ _ => hQ _ _ _ hk (F.toks _) (HS.refl _ _) (.int _ _)
  · exact hk.elim
theorem bc_int : BCall cx (.type "int") kInt := by
  intro fc ns ρ ads σ s us ds Q Q' E' F r hk hQ
  unfold kInt at hk
  split at hk
  · obtain ⟨u, rfl, r1⟩ := one_of r
    cases r1
    exact PySem.call_int_int (hQ _ _ _ hk F (HS.refl _ _) (.int _ _))
  · exact hk.elim
theorem bc_min : BCall cx (.builtin "min") kMin := by
  intro fc ns ρ ads σ s us ds Q Q' E' F r hk hQ
  unfold kMin at hk
  split at hk
  · obtain ⟨u, v, rfl, r1, r2⟩ := two_of r
    cases r1; cases r2
    refine min_two_ints rfl fun h' tk hkp => ?_
    refine hQ _ _ _ hk (F.keep (s' := { s with heap := h', toks := tk }) hkp rfl rfl) (HX.of_keep hkp) ?_
    split <;> exact .int _ _
  · exact hk.elim
theorem bc_max : BCall cx (.builtin "max") kMax := by
  intro fc ns ρ ads σ s us ds Q Q' E' F r hk hQ
  unfold kMax at hk
  split at hk
  · obtain ⟨u, v, rfl, r1, r2⟩ := two_of r
    cases r1; cases r2
    refine max_two_ints rfl fun h' tk hkp => ?_
    refine hQ _ _ _ hk (F.keep (s' := { s with heap := h', toks := tk }) hkp rfl rfl) (HX.of_keep hkp) ?_
    split <;> exact .int _ _
  · exact hk.elim
theorem bc_divmod : BCall cx (.builtin "divmod") kDivmod := by
  intro fc ns ρ ads σ s us ds Q Q' E' F r hk hQ
  unfold kDivmod at hk
  split at hk
  · obtain ⟨u, v, rfl, r1, r2⟩ := two_of r
    cases r1; cases r2
    exact divmod_int hk.1 (hQ _ _ _ hk.2.2 ((F.push _).toks _) (HX.of_keep fun _ _ e => Heap.get?_push_of_some _ e) (.tuple (Heap.get?_push_size _ rfl) rfl rfl F.newX (.cons (.int _ _) (.cons (.int _ _) .nil)))) (.inl (noPy hk.2.1))
  · exact hk.elim

/-! isinstance(e, int) -/
def tIsInt (t : Tr) : Tr := fun ρ σ Q X => t ρ σ (fun d => intQ d fun _ => Q (.bool true)) X
theorem SE_isint (hx : fc.cs.names.lookup (Str.ofString "isinstance") = some .globalImplicit) (hno : nsIn cx.K mainGlobals (Str.ofString "isinstance") = some none)
    (hx' : fc.cs.names.lookup (Str.ofString "int") = some .globalImplicit) (hno' : nsIn cx.K mainGlobals (Str.ofString "int") = some none) (he : SE cx fc ns e t) {p₂ : Pos}
    (h1 : starEach (e :: [.Name (Str.ofString "int") p₂]) fc.env = (false, eval e fc.env) :: starEach [.Name (Str.ofString "int") p₂] fc.env := by rfl) :
    SE cx fc ns (.Call (.Name (Str.ofString "isinstance") p) [e, .Name (Str.ofString "int") p₂] [] pos) (tIsInt t) := fun _ _ _ _ _ _ _ _ F ht hQ hX => by
  refine Call_ (name_boot F hx hno Boot.«isinstance» (by decide) (by decide) (PyProof.Rows.callWith_builtin1 (args_cons (he _ _ _ _ _ _ _ _ F ht (fun u d s₁ h₁ F₁ k₁ r₁ => ?_) hX) h1) h1))
  cases d <;> (try exact h₁.elim)
  cases r₁ with
  | int i tk =>
  exact args_cons (name_boot F₁ hx' hno' Boot.«int» (by decide) (by decide) (args_nil (PySem.IsiPair.int_int (hQ _ _ _ h₁ F₁ k₁ (.bool _)))))

/-! type(e) is T -/
def tyName : PyData → String
  | .none => "NoneType"
  | .bool _ => "bool"
  | .int _ => "int"
  | .str _ => "str"
  | .list _ => "list"
  | .tuple _ => "tuple"
  | .dict _ => "dict"
theorem Rd.typeIs {h : Heap} {X : List Addr} {u : Value} {d : PyData} (r : Rd h X u d) {s : Shared} (hs : s.heap = h) : s.TypeIs u (tyName d) := by
  subst hs
  cases r with
  | none => exact rfl
  | bool _ => exact rfl
  | int _ _ => exact typeIs_int _ _ _
  | str _ _ => exact typeIs_str _ _ _
  | list ho hc _ _ _ => exact ⟨_, ho, hc⟩
  | tuple ho hc _ _ _ => exact ⟨_, ho, hc⟩
def tTypeIs (T : String) (t : Tr) : Tt := fun ρ σ Q X => t ρ σ (fun d => Q (tyName d == T)) X
theorem type_beq (a b : String) : (Value.type a == Value.type b) = (a == b) := by
  by_cases h : a = b
  · subst h; simp
  · have : (Value.type a == Value.type b) = false := beq_eq_false_iff_ne.mpr fun q => h (Value.type.inj q)
    rw [this]; exact (beq_eq_false_iff_ne.mpr h).symm
theorem tyName_ne (d : PyData) : (Value.type (tyName d) == Value.type "builtin_function_or_method") = false := by
  rw [type_beq]; cases d <;> rfl
theorem ST_typeIs {x : Str} {T : String} {p₂ p₃ : Pos} (hx : fc.cs.names.lookup (Str.ofString "type") = some .globalImplicit) (hno : nsIn cx.K mainGlobals (Str.ofString "type") = some none)
    (hx' : fc.cs.names.lookup x = some .globalImplicit) (hno' : nsIn cx.K mainGlobals x = some none) (hb : bootBuiltins x = some (.type T)) (he : SE cx fc ns e t) (hn : x ≠ "__name__" := by decide) (hd : (x == ("__debug__" : Str)) = false := by decide)
    (h1 : starEach [e] fc.env = (false, eval e fc.env) :: starEach [] fc.env := by rfl) :
    ST cx fc ns (.Compare (.Call (.Name (Str.ofString "type") p) [e] [] p₂) [.Is] [.Name x p₃] pos) (tTypeIs T t) := fun _ _ _ _ _ _ _ _ F ht hQ hX => by
  refine wpAny_isTrue_Compare1 (Call_ (name_boot F hx hno Boot.«type» (by decide) (by decide) (PyProof.Rows.callWith_type1 (args_cons (he _ _ _ _ _ _ _ _ F ht (fun u d s₁ h₁ F₁ k₁ r₁ => ?_) hX) h1) h1)))
  refine args_nil (call_type_of (r₁.typeIs rfl) (tyName_ne d) ?_)
  refine name_boot F₁ hx' hno' hb hn hd (wpAny_is_plain rfl (wpAny_truthy_bool (hQ _ _ ?_ F₁ k₁)))
  rw [type_beq]; exact h₁
end Mine

namespace Mine
open PySem PySem.W PySem.Calls PyProof.Rows PySem.Spec
variable {cx : Cx} {fc : Fc} {ns : List Str} {ρ : List Slot} {ads : List Addr} {σ : List (List PyData)} {s s' : Shared}
variable {e e₁ e₂ l r value slice : Expr} {es : List Expr} {t t₁ t₂ tl tr : Tr} {tt tt₁ tt₂ : Tt} {ts : Ts} {p pos apos : Pos} {k : Nat} {kk : PyData → PyData → (PyData → Prop) → Prop}

/-! the frame after a change of its own -/
theorem Rd.hs {S X X' : List Addr} {h h' : Heap} {u d} (r : Rd h X u d) (hk : HS S h h') (hS : ∀ b ∈ S, b ∈ X) (hX : ∀ b, (h.get? b).isSome → b ∈ X' → b ∈ X) : Rd h' X' u d :=
  r.mono fun b o vs n ho hd hx => ⟨hk.get ho (not_tb_seq hd) fun q => hx (hS b q), fun q => hx (hX b (by rw [ho]; rfl) q)⟩
theorem Rds.hs {S X X' : List Addr} {h h' : Heap} {u d} (r : Rds h X u d) (hk : HS S h h') (hS : ∀ b ∈ S, b ∈ X) (hX : ∀ b, (h.get? b).isSome → b ∈ X' → b ∈ X) : Rds h' X' u d :=
  r.mono fun b o vs n ho hd hx => ⟨hk.get ho (not_tb_seq hd) fun q => hx (hS b q), fun q => hx (hX b (by rw [ho]; rfl) q)⟩

theorem Ns.hs {S : List Addr} {h h' : Heap} {a : Addr} {m} (x : h.Ns a m) (hk : HS S h h') (ha : a ∉ S) : h'.Ns a m := by
  obtain ⟨o, es, ep, ho, hd, r⟩ := x
  exact ⟨o, es, ep, hk.get ho (not_tb_dict hd) ha, hd, r⟩

theorem InFr.own_mem (F : InFr cx fc ns ρ ads σ s) {a : Addr} (ha : a ∈ ads) : cx.N ≤ a ∧ ∃ o items n, s.heap.get? a = some o ∧ o.cls = .type "list" ∧ o.data = .seq items n := by
  obtain ⟨k, hk, rfl⟩ := List.getElem_of_mem ha
  have hk' : k < σ.length := by rw [← F.own.1]; exact hk
  obtain ⟨h1, o, items, n, h4, h5, _, h6, _⟩ := F.own.2.2 k _ _ (List.getElem?_eq_getElem hk) (List.getElem?_eq_getElem hk')
  exact ⟨h1, o, items, n, h4, h5, h6⟩

theorem FramesIs.mono' {h h' : Heap} {N : Nat} (hk : ∀ b o es n, N ≤ b → h.get? b = some o → o.data = .dict es n → ∃ o' es' n', h'.get? b = some o' ∧ o'.data = .dict es' n') : ∀ {l : List Env}, FramesIs h N l → FramesIs h' N l
  | [], _ => trivial
  | _ :: _, ⟨hf, ⟨L, o, es, n, h1, h2, h3, h4⟩, r⟩ => by
    obtain ⟨o', es', n', h5, h6⟩ := hk L o es n h2 h3 h4
    exact ⟨hf, ⟨L, o', es', n', h1, h2, h5, h6⟩, FramesIs.mono' hk r⟩

theorem InFr.re {ρ' : List Slot} {ads' : List Addr} {σ' : List (List PyData)} (F : InFr cx fc ns ρ ads σ s) (hk : HS (fc.L :: ads) s.heap s'.heap) (gi : ∃ w, cx.GI w s')
    (env' : ∃ m, s'.heap.Ns fc.L m ∧ EnvIs s'.heap m ns ρ' ads' (fc.X ads')) (own' : OwnIs s'.heap cx.N ads' σ' (fc.X ads')) : InFr cx fc ns ρ' ads' σ' s' := by
  have low : ∀ b, b < cx.N → b ∉ fc.L :: ads := fun b hb q => by
    rcases List.mem_cons.mp q with rfl | q
    · exact absurd F.lN (Nat.not_le.mpr hb)
    · exact absurd (F.own_mem q).1 (Nat.not_le.mpr hb)
  refine ⟨fun a o e => hk.get (F.kin a o e) (cx.kb a o e).1 (low a (cx.kb a o e).2), ?_, gi, env', F.lN, own', ?_, fun x hx => ?_, F.nsl, F.nsd, F.hk, F.rmd, F.rmu⟩
  · have T := F.top
    obtain ⟨mc, h1, h2⟩ := T.nolimit
    exact ⟨Ns.hs T.g hk (low _ cx.tg), Ns.hs T.b hk (low _ cx.tb), ⟨mc, Ns.hs h1 hk (low _ cx.tc), h2⟩, T.builtins, T.free⟩
  · refine F.frs.mono' fun b o es n hN ho hd => ?_
    by_cases hb : b = fc.L
    · subst hb
      obtain ⟨m, ⟨o', es', n', h1, h2, _⟩, _⟩ := env'
      exact ⟨o', es', n', h1, h2⟩
    · refine ⟨o, es, n, hk.get ho (not_tb_dict hd) fun q => ?_, hd⟩
      rcases List.mem_cons.mp q with q | q
      · exact hb q
      · obtain ⟨_, o', _, _, h1, _, h2⟩ := F.own_mem q
        rw [ho] at h1; injection h1 with h1; subst h1; rw [hd] at h2; cases h2
  · obtain ⟨h1, o, h2⟩ := F.fbs x hx
    obtain ⟨o', h3, _⟩ := hk x o h2
    exact ⟨h1, o', h3⟩

theorem InFr.giS (F : InFr cx fc ns ρ ads σ s) (hos : s'.os = s.os) (hg : s'.gens = s.gens) (hk : ∀ b o, s.heap.get? b = some o → b ∉ fc.L :: ads → s'.heap.get? b = some o) : ∃ w, cx.GI w s' := by
  obtain ⟨w, g⟩ := F.gi
  refine ⟨w, cx.stable _ _ _ g hos hg fun b o e hb => hk b o e fun q => ?_⟩
  rcases hb with hb | hb
  · have hb := cx.ilt _ hb
    rcases List.mem_cons.mp q with rfl | q
    · exact absurd F.lN (Nat.not_le.mpr hb)
    · exact absurd (F.own_mem q).1 (Nat.not_le.mpr hb)
  · obtain ⟨o9, h9, _, vs, hv⟩ := cx.whas _ _ _ g hb
    rw [e] at h9; injection h9 with h9; subst h9
    rcases List.mem_cons.mp q with rfl | q
    · obtain ⟨m, ⟨o', es, ep, h1, h2, _⟩, _⟩ := F.env
      rw [e] at h1; injection h1 with h1; subst h1; rw [hv] at h2; cases h2
    · obtain ⟨_, o', _, _, h1, _, h2⟩ := F.own_mem q
      rw [e] at h1; injection h1 with h1; subst h1; rw [hv] at h2; cases h2

/-- a change of a new record (an iterator) -/
theorem InFr.touch (F : InFr cx fc ns ρ ads σ s) {it : Addr} {oi : Obj} {vs : Array Value} (hN : cx.N ≤ it) (hi : s.heap.get? it = some oi) (hd : oi.data = .fields vs) (hc : ¬ Cd oi)
    (hk : ∀ b o, b ≠ it → s.heap.get? b = some o → s'.heap.get? b = some o) (hi' : it ∉ fc.fb) (hos : s'.os = s.os) (hg : s'.gens = s.gens) : InFr cx fc ns ρ ads σ s' := by
  have ne : ∀ {b o}, s.heap.get? b = some o → (∀ vs, o.data ≠ .fields vs) → b ≠ it := fun ho hn q => by
    subst q; rw [hi] at ho; injection ho with ho; subst ho; exact hn vs hd
  have rd : ∀ {u d}, Rd s.heap (fc.X ads) u d → Rd s'.heap (fc.X ads) u d := fun r => r.mono fun b o vs n ho hd hx => ⟨hk b o (ne ho fun vs q => by rw [hd] at q; cases q) ho, hx⟩
  have rds : ∀ {u d}, Rds s.heap (fc.X ads) u d → Rds s'.heap (fc.X ads) u d := fun r => r.mono fun b o vs n ho hd hx => ⟨hk b o (ne ho fun vs q => by rw [hd] at q; cases q) ho, hx⟩
  have nsk : ∀ {a m}, s.heap.Ns a m → s'.heap.Ns a m := fun ⟨o, es, ep, ho, hd, r⟩ => ⟨o, es, ep, hk _ _ (ne ho fun vs q => by rw [hd] at q; cases q) ho, hd, r⟩
  refine ⟨fun a o e => hk _ _ (fun q => by have := (cx.kb a o e).2; subst q; exact absurd hN (Nat.not_le.mpr this)) (F.kin a o e), ?_, ?_, ?_, F.lN, ?_, ?_, fun x hx => ?_, F.nsl, F.nsd, F.hk, F.rmd, F.rmu⟩
  · have T := F.top
    obtain ⟨mc, h1, h2⟩ := T.nolimit
    exact ⟨nsk T.g, nsk T.b, ⟨mc, nsk h1, h2⟩, T.builtins, T.free⟩
  · obtain ⟨w, g⟩ := F.gi
    refine ⟨w, cx.stable _ _ _ g hos hg fun b o e hb => hk b o (fun q => ?_) e⟩
    subst q
    rcases hb with hb | hb
    · exact absurd hN (Nat.not_le.mpr (cx.ilt _ hb))
    · obtain ⟨o9, h9, h10⟩ := cx.whas _ _ _ g hb
      rw [hi] at h9; injection h9 with h9; subst h9; exact hc h10
  · obtain ⟨m, h1, h2⟩ := F.env
    refine ⟨m, nsk h1, fun i x sl hi hr => ?_⟩
    have := h2 i x sl hi hr
    cases sl with
    | undef => trivial
    | val d => obtain ⟨u, h3, h4⟩ := this; exact ⟨u, h3, rd h4⟩
    | own k => exact this
  · refine ⟨F.own.1, F.own.2.1, fun k a ds h1 h2 => ?_⟩
    obtain ⟨h3, o, items, n, h4, h5, h5d, h6, h7⟩ := F.own.2.2 k a ds h1 h2
    exact ⟨h3, o, items, n, hk _ _ (ne h4 fun vs q => by rw [h6] at q; cases q) h4, h5, h5d, h6, rds h7⟩
  · exact F.frs.mono fun b o es n ho hd => ⟨o, hk _ _ (ne ho fun vs q => by rw [hd] at q; cases q) ho, rfl⟩
  · obtain ⟨h1, o, h2⟩ := F.fbs x hx
    exact ⟨h1, o, hk x o (fun q => hi' (q ▸ hx)) h2⟩

/-! storing a name -/
theorem store_ok {A : Around} {i : Nat} {x : Str} {u : Value} {sl : Slot} {Q : Unit → Shared → Prop} {E} (F : InFr cx fc ns ρ ads σ s) (hx : ns[i]? = some x)
    (hu : ∀ h' m', HS (fc.L :: ads) s.heap h' → m' x = some u → SlotIs h' m' ads (fc.X ads) x sl)
    (h : ∀ s', InFr cx fc ns (ρ.set i sl) ads σ s' → HS (fc.L :: ads) s.heap s'.heap → Q () s') : wpAny (model cx.prog cx.w) A (storeName fc.env x u) Q E s := by
  obtain ⟨m, h1, h2⟩ := F.env
  refine wpAny_storeName_local (F.nsl x (List.mem_of_getElem? hx)) h1 (fun h' hn hs => ?_) (by show (fc.cs.kind == .class || (fc.cs.kind == .module && fc.L != mainGlobals)) = false; rw [F.hk]; rfl)
  have hk : HS (fc.L :: ads) s.heap h' := fun b o e => by
    by_cases q : b = fc.L
    · subst q; obtain ⟨o', _, _, h3, _⟩ := hn; exact ⟨o', h3, fun _ q => (q (.head _)).elim⟩
    · exact ⟨o, (hs.2 b q).trans e, fun _ _ => rfl⟩
  refine h _ (F.re hk (F.giS rfl rfl fun b o e q => (hs.2 b fun z => q (z ▸ .head _)).trans e) ⟨_, hn, fun j y sl' hj hr => ?_⟩ ⟨F.own.1, F.own.2.1, fun k a ds h1 h2 => ?_⟩) hk
  · by_cases hij : i = j
    · subst hij
      have hyx : y = x := Option.some.inj (hj.symm.trans hx)
      subst hyx
      have : sl' = sl := by
        by_cases hi : i < ρ.length
        · rw [List.getElem?_set_self hi] at hr; exact (Option.some.inj hr).symm
        · rw [List.getElem?_eq_none (by simpa using hi)] at hr; cases hr
      subst this
      exact hu _ _ hk (if_pos rfl)
    · rw [List.getElem?_set_ne hij] at hr
      have hyx : y ≠ x := fun q => by
        subst q
        obtain ⟨h5, h6⟩ := List.getElem?_eq_some_iff.mp hx
        obtain ⟨h7, h8⟩ := List.getElem?_eq_some_iff.mp hj
        have pw := List.pairwise_iff_getElem.mp F.nsd
        rcases Nat.lt_or_gt_of_ne hij with q | q
        · exact pw i j h5 h7 q (h6.trans h8.symm)
        · exact pw j i h7 h5 q (h8.trans h6.symm)
      have h9 := h2 j y sl' hj hr
      cases sl' with
      | undef => trivial
      | val d =>
        obtain ⟨w, h10, h11⟩ := h9
        exact ⟨w, (if_neg hyx).trans h10, h11.hs hk (fun b hb => by rcases List.mem_cons.mp hb with rfl | hb; exact .head _; exact .tail _ (List.mem_append_left _ hb)) fun _ _ q => q⟩
      | own k =>
        obtain ⟨w, h10, h11⟩ := h9
        exact ⟨w, (if_neg hyx).trans h10, h11⟩
  · obtain ⟨h3, o, items, n, h4, h5, h5d, h6, h7⟩ := F.own.2.2 k a ds h1 h2
    have hLa : a ≠ fc.L := fun q => by
      subst q
      obtain ⟨m, ⟨o', es, ep, g1, g2, _⟩, _⟩ := F.env
      rw [h4] at g1; injection g1 with g1; subst g1; rw [h6] at g2; cases g2
    exact ⟨h3, o, items, n, (hs.2 a hLa).trans h4, h5, h5d, h6, h7.hs hk (fun b hb => by rcases List.mem_cons.mp hb with rfl | hb; exact .head _; exact .tail _ (List.mem_append_left _ hb)) fun _ _ q => q⟩

theorem lx (b : Addr) : b ∈ fc.L :: ads → b ∈ fc.X ads := fun hb => by
  rcases List.mem_cons.mp hb with rfl | hb
  · exact .head _
  · exact .tail _ (List.mem_append_left _ hb)

theorem store_val {A : Around} {i : Nat} {x : Str} {u : Value} {d : PyData} {Q : Unit → Shared → Prop} {E} (F : InFr cx fc ns ρ ads σ s) (hx : ns[i]? = some x) (r : Rd s.heap (fc.X ads) u d)
    (h : ∀ s', InFr cx fc ns (ρ.set i (.val d)) ads σ s' → HS (fc.L :: ads) s.heap s'.heap → Q () s') : wpAny (model cx.prog cx.w) A (storeName fc.env x u) Q E s :=
  store_ok (sl := .val d) F hx (fun h' m' hk hm => (⟨u, hm, r.hs hk lx fun _ _ q => q⟩ : ∃ u, m' x = some u ∧ Rd h' (fc.X ads) u d)) h

/-! statements -/
structure Post where
  nx : List Slot → List (List PyData) → Prop
  rt : PyData → Prop
  bk : List Slot → List (List PyData) → Prop
  ct : List Slot → List (List PyData) → Prop
  xx : Exn → List Slot → List (List PyData) → Prop
abbrev Tx := List Slot → List (List PyData) → Post → Prop

def Grow (h : Heap) (ads ads' : List Addr) : Prop := ∀ a ∈ ads', a ∈ ads ∨ h.get? a = none
theorem Grow.refl (h : Heap) (ads : List Addr) : Grow h ads ads := fun a ha => .inl ha
theorem Grow.trans {S : List Addr} {h h₁ : Heap} {a b c : List Addr} (x : Grow h a b) (hk : HS S h h₁) (y : Grow h₁ b c) : Grow h a c := fun q hq => by
  rcases y q hq with h1 | h1
  · exact x q h1
  · refine .inr ?_
    cases z : h.get? q with
    | none => rfl
    | some o => obtain ⟨o', h2, _⟩ := hk q o z; rw [h1] at h2; cases h2
theorem HS.grow {L : Addr} {h h₁ h₂ : Heap} {a b : List Addr} (x : HS (L :: a) h h₁) (g : Grow h a b) (y : HS (L :: b) h₁ h₂) : HS (L :: a) h h₂ := fun q o e => by
  obtain ⟨o', h1, h2⟩ := x q o e
  obtain ⟨o'', h3, h4⟩ := y q o' h1
  refine ⟨o'', h3, fun hn hs => ?_⟩
  have := h2 hn hs; subst this
  refine h4 hn fun z => ?_
  rcases List.mem_cons.mp z with rfl | z
  · exact hs (.head _)
  · rcases g q z with z | z
    · exact hs (.tail _ z)
    · rw [e] at z; cases z

def FlowIs (cx : Cx) (fc : Fc) (ns : List Str) (ads : List Addr) (h₀ : Heap) (P : Post) (fl : Flow) (s' : Shared) : Prop := match fl with
  | .next => ∃ ρ' ads' σ', P.nx ρ' σ' ∧ InFr cx fc ns ρ' ads' σ' s' ∧ Grow h₀ ads ads'
  | .brk => ∃ ρ' ads' σ', P.bk ρ' σ' ∧ InFr cx fc ns ρ' ads' σ' s' ∧ Grow h₀ ads ads'
  | .cont => ∃ ρ' ads' σ', P.ct ρ' σ' ∧ InFr cx fc ns ρ' ads' σ' s' ∧ Grow h₀ ads ads'
  | .ret u => ∃ ρ' ads' σ' d, P.rt d ∧ InFr cx fc ns ρ' ads' σ' s' ∧ Grow h₀ ads ads' ∧ Rd s'.heap (fc.X ads') u d

def SX1 (cx : Cx) (fc : Fc) (ns : List Str) (st : Stmt) (t : Tx) : Prop :=
  ∀ ρ ads σ s P (Q' : Flow → Shared → Prop) E', InFr cx fc ns ρ ads σ s → t ρ σ P →
    (∀ fl s', FlowIs cx fc ns ads s.heap P fl s' → HS (fc.L :: ads) s.heap s'.heap → Q' fl s') →
    (∀ x u s' ρ' ads' σ', P.xx x ρ' σ' → InFr cx fc ns ρ' ads' σ' s' → Grow s.heap ads ads' → Flies cx fc x u s.heap (fc.L :: ads) s' → E' u s') →
    wpAny (model cx.prog cx.w) fc.A (exec st fc.env) Q' E' s
def SX (cx : Cx) (fc : Fc) (ns : List Str) (sts : List Stmt) (t : Tx) : Prop :=
  ∀ ρ ads σ s P (Q' : Flow → Shared → Prop) E', InFr cx fc ns ρ ads σ s → t ρ σ P →
    (∀ fl s', FlowIs cx fc ns ads s.heap P fl s' → HS (fc.L :: ads) s.heap s'.heap → Q' fl s') →
    (∀ x u s' ρ' ads' σ', P.xx x ρ' σ' → InFr cx fc ns ρ' ads' σ' s' → Grow s.heap ads ads' → Flies cx fc x u s.heap (fc.L :: ads) s' → E' u s') →
    wpAny (model cx.prog cx.w) fc.A (execs sts fc.env) Q' E' s

theorem Flies.ofE {x : Exn} {u : Value} {h₀ : Heap} {S : List Addr} (f : Flies cx fc x u h₀ [] s') : Flies cx fc x u h₀ S s' := f.pre (HS.refl _ _) fun _ _ q => nomatch q
theorem Flies.grow {x : Exn} {u : Value} {h₀ h₁ : Heap} {a b : List Addr} (f : Flies cx fc x u h₁ (fc.L :: b) s') (k : HS (fc.L :: a) h₀ h₁) (g : Grow h₀ a b) : Flies cx fc x u h₀ (fc.L :: a) s' :=
  f.pre k fun q hq z => by
    rcases List.mem_cons.mp z with rfl | z
    · exact .head _
    · rcases g q z with z | z
      · exact .tail _ z
      · rw [z] at hq; cases hq

variable {st : Stmt} {sts body orelse : List Stmt} {tx tx₁ tx₂ : Tx}
def tSkip : Tx := fun ρ σ P => P.nx ρ σ
def tSeq (a b : Tx) : Tx := fun ρ σ P => a ρ σ { P with nx := fun ρ' σ' => b ρ' σ' P }
theorem SX_nil : SX cx fc ns [] tSkip := fun _ _ _ _ _ _ _ F ht hQ _ => PySem.wpAny_execs_nil (hQ _ _ ⟨_, _, _, ht, F, .refl _ _⟩ (HS.refl _ _))
theorem SX_cons (h : SX1 cx fc ns st tx₁) (h' : SX cx fc ns sts tx₂) : SX cx fc ns (st :: sts) (tSeq tx₁ tx₂) := fun ρ ads σ s P Q' E' F ht hQ hX => by
  refine PySem.wpAny_execs_cons (h _ _ _ _ _ _ _ F ht (fun fl s₁ hf k₁ => ?_) fun x u s' ρ' ads' σ' hx F' g fl => hX x u s' ρ' ads' σ' hx F' g fl)
  cases fl with
  | next =>
    obtain ⟨ρ₁, ads₁, σ₁, hn, F₁, g₁⟩ := hf
    refine h' _ _ _ _ _ _ _ F₁ hn (fun fl s₂ hf₂ k₂ => hQ fl s₂ ?_ (k₁.grow g₁ k₂)) fun x u s' ρ' ads' σ' hx F' g fl => hX x u s' ρ' ads' σ' hx F' (g₁.trans k₁ g) (fl.grow k₁ g₁)
    cases fl with
    | next => obtain ⟨ρ₂, ads₂, σ₂, a1, a2, a3⟩ := hf₂; exact ⟨ρ₂, ads₂, σ₂, a1, a2, g₁.trans k₁ a3⟩
    | brk => obtain ⟨ρ₂, ads₂, σ₂, a1, a2, a3⟩ := hf₂; exact ⟨ρ₂, ads₂, σ₂, a1, a2, g₁.trans k₁ a3⟩
    | cont => obtain ⟨ρ₂, ads₂, σ₂, a1, a2, a3⟩ := hf₂; exact ⟨ρ₂, ads₂, σ₂, a1, a2, g₁.trans k₁ a3⟩
    | ret v => obtain ⟨ρ₂, ads₂, σ₂, d, a1, a2, a3, a4⟩ := hf₂; exact ⟨ρ₂, ads₂, σ₂, d, a1, a2, g₁.trans k₁ a3, a4⟩
  | brk => exact hQ _ _ hf k₁
  | cont => exact hQ _ _ hf k₁
  | ret v => exact hQ _ _ hf k₁
theorem SX_false : SX cx fc ns sts (fun _ _ _ => False) := fun _ _ _ _ _ _ _ _ h => h.elim
theorem SX1_false : SX1 cx fc ns st (fun _ _ _ => False) := fun _ _ _ _ _ _ _ _ h => h.elim

/-- an expression in a statement -/
theorem SE.inX (h : SE cx fc ns e t) {P : Post} {Q : PyData → Prop} {Q' : Value → Shared → Prop} {E'} (F : InFr cx fc ns ρ ads σ s) (ht : t ρ σ Q (fun x => P.xx x ρ σ))
    (hQ : ∀ u d s', Q d → InFr cx fc ns ρ ads σ s' → HX s.heap s'.heap → Rd s'.heap (fc.X ads) u d → Q' u s')
    (hX : ∀ x u s' ρ' ads' σ', P.xx x ρ' σ' → InFr cx fc ns ρ' ads' σ' s' → Grow s.heap ads ads' → Flies cx fc x u s.heap (fc.L :: ads) s' → E' u s') :
    wpAny (model cx.prog cx.w) fc.A (eval e fc.env) Q' E' s :=
  h _ _ _ _ _ _ _ _ F ht hQ fun x u s' hx F' fl => hX x u s' _ _ _ hx F' (.refl _ _) fl.ofE
theorem ST.inX (h : ST cx fc ns e tt) {P : Post} {Q : Bool → Prop} {Q' : Bool → Shared → Prop} {E'} (F : InFr cx fc ns ρ ads σ s) (ht : tt ρ σ Q (fun x => P.xx x ρ σ))
    (hQ : ∀ b s', Q b → InFr cx fc ns ρ ads σ s' → HX s.heap s'.heap → Q' b s')
    (hX : ∀ x u s' ρ' ads' σ', P.xx x ρ' σ' → InFr cx fc ns ρ' ads' σ' s' → Grow s.heap ads ads' → Flies cx fc x u s.heap (fc.L :: ads) s' → E' u s') :
    wpAny (model cx.prog cx.w) fc.A (isTrue e fc.env (eval e fc.env)) Q' E' s :=
  h _ _ _ _ _ _ _ _ F ht hQ fun x u s' hx F' fl => hX x u s' _ _ _ hx F' (.refl _ _) fl.ofE

def tRet (t : Tr) : Tx := fun ρ σ P => t ρ σ P.rt (fun x => P.xx x ρ σ)
theorem SX_ret (h : SE cx fc ns e t) : SX1 cx fc ns (.Return (some e) pos) (tRet t) := fun _ _ _ _ _ _ _ F ht hQ hX =>
  PySem.wpAny_Return_some (h.inX F ht (fun u d s' hd F' k' r' => hQ _ _ ⟨_, _, _, d, hd, F', .refl _ _, r'⟩ k'.toHS) hX)

def tSet (i : Nat) (t : Tr) : Tx := fun ρ σ P => t ρ σ (fun d => P.nx (ρ.set i (.val d)) σ) (fun x => P.xx x ρ σ)
theorem SX_set {i : Nat} {x : Str} (hx : ns[i]? = some x) (h : SE cx fc ns e t) (hs : swapsWith e (some (.Name x p)) pos.line fc.env = pure false := by rfl) : SX1 cx fc ns (.Assign [.Name x p] e pos) (tSet i t) := fun _ _ _ _ _ _ _ F ht hQ hX =>
  PySem.wpAny_Assign_Name (h.inX F ht (fun u d s' hd F' k' r' => store_val F' hx r' fun s₂ F₂ k₂ => hQ _ _ ⟨_, _, _, hd, F₂, .refl _ _⟩ (k'.toHS.trans k₂)) hX) hs

def tAug (i : Nat) (kk : PyData → PyData → (PyData → Prop) → Prop) (t : Tr) : Tx := fun ρ σ P => slotQ (ρ.getD i .undef) fun a => t ρ σ (fun b => kk a b fun d => P.nx (ρ.set i (.val d)) σ) (fun x => P.xx x ρ σ)
theorem SX_aug {i : Nat} {x : Str} {op : Operator} (hx : ns[i]? = some x) (ho : BinOK cx (inplaceOp op) kk) (h : SE cx fc ns e t) : SX1 cx fc ns (.AugAssign (.Name x p) op e pos) (tAug i kk t) := fun ρ _ σ _ P _ _ F ht hQ hX => by
  obtain ⟨m, u, d, h1, h2, h3, h4⟩ := slot_get (Q := fun a => t ρ σ (fun b => kk a b fun d => P.nx (ρ.set i (.val d)) σ) (fun x => P.xx x ρ σ)) F hx ht
  exact PySem.wpAny_AugAssign_Name (wpAny_loadName_local F.hk (F.nsl x (List.mem_of_getElem? hx)) h1 h2 (h.inX F h3 (fun v b s' hb F' k' r' => ho _ _ _ _ _ _ _ _ _ _ _ _ _ F' (h4.hx k') r' hb fun w c s₂ hc F₂ k₂ r₂ =>
    store_val F₂ hx r₂ fun s₃ F₃ k₃ => hQ _ _ ⟨_, _, _, hc, F₃, .refl _ _⟩ ((k'.toHS.trans k₂.toHS).trans k₃)) hX))

def tIf (c : Tt) (a b : Tx) : Tx := fun ρ σ P => c ρ σ (fun x => (x = true → a ρ σ P) ∧ (x = false → b ρ σ P)) (fun x => P.xx x ρ σ)
theorem FlowIs.pre {h₀ h₁ : Heap} {P : Post} {fl : Flow} (f : FlowIs cx fc ns ads h₁ P fl s') (k : HX h₀ h₁) : FlowIs cx fc ns ads h₀ P fl s' := by
  cases fl with
  | next => obtain ⟨ρ₂, ads₂, σ₂, a1, a2, a3⟩ := f; exact ⟨ρ₂, ads₂, σ₂, a1, a2, (Grow.refl _ _).trans k a3⟩
  | brk => obtain ⟨ρ₂, ads₂, σ₂, a1, a2, a3⟩ := f; exact ⟨ρ₂, ads₂, σ₂, a1, a2, (Grow.refl _ _).trans k a3⟩
  | cont => obtain ⟨ρ₂, ads₂, σ₂, a1, a2, a3⟩ := f; exact ⟨ρ₂, ads₂, σ₂, a1, a2, (Grow.refl _ _).trans k a3⟩
  | ret v => obtain ⟨ρ₂, ads₂, σ₂, d, a1, a2, a3, a4⟩ := f; exact ⟨ρ₂, ads₂, σ₂, d, a1, a2, (Grow.refl _ _).trans k a3, a4⟩
theorem SX.pre (h : SX cx fc ns sts tx) {P : Post} {Q' : Flow → Shared → Prop} {E'} {h₀ : Heap} (F : InFr cx fc ns ρ ads σ s) (k : HX h₀ s.heap) (ht : tx ρ σ P)
    (hQ : ∀ fl s', FlowIs cx fc ns ads h₀ P fl s' → HS (fc.L :: ads) h₀ s'.heap → Q' fl s')
    (hX : ∀ x u s' ρ' ads' σ', P.xx x ρ' σ' → InFr cx fc ns ρ' ads' σ' s' → Grow h₀ ads ads' → Flies cx fc x u h₀ (fc.L :: ads) s' → E' u s') :
    wpAny (model cx.prog cx.w) fc.A (execs sts fc.env) Q' E' s :=
  h _ _ _ _ _ _ _ F ht (fun fl s' hf k' => hQ fl s' (hf.pre k) (k.toHS.trans k')) fun x u s' ρ' ads' σ' hx F' g fl => hX x u s' ρ' ads' σ' hx F' ((Grow.refl _ _).trans k g) (fl.pre k.toHS fun _ _ q => q)
theorem SX_if (h : ST cx fc ns e tt) (h₁ : SX cx fc ns body tx₁) (h₂ : SX cx fc ns orelse tx₂) : SX1 cx fc ns (.If e body orelse pos) (tIf tt tx₁ tx₂) := fun _ _ _ _ _ _ _ F ht hQ hX =>
  PySem.wpAny_If (h.inX F ht (fun b s' hb F' k' => by
    cases b with
    | true => exact h₁.pre F' k' (hb.1 rfl) hQ hX
    | false => exact h₂.pre F' k' (hb.2 rfl) hQ hX) hX)

def tAssert (c : Tt) : Tx := fun ρ σ P => c ρ σ (fun b => b = true ∧ P.nx ρ σ) (fun x => P.xx x ρ σ)
theorem SX_assert {msg : Option Expr} (h : ST cx fc ns e tt) : SX1 cx fc ns (.Assert e msg pos) (tAssert tt) := fun _ _ _ _ _ _ _ F ht hQ hX =>
  wpAny_Assert_holds (h.inX F ht (fun b s' hb F' k' => ⟨hb.1, hQ _ _ ⟨_, _, _, hb.2, F', .refl _ _⟩ k'.toHS⟩) hX)

def tBrk : Tx := fun ρ σ P => P.bk ρ σ
theorem SX_brk : SX1 cx fc ns (.Break pos) tBrk := fun _ _ _ _ _ _ _ F ht hQ _ => wpAny_Break (hQ _ _ ⟨_, _, _, ht, F, .refl _ _⟩ (HS.refl _ _))
def tCont : Tx := fun ρ σ P => P.ct ρ σ
theorem SX_cont : SX1 cx fc ns (.Continue pos) tCont := fun _ _ _ _ _ _ _ F ht hQ _ => wpAny_Continue (hQ _ _ ⟨_, _, _, ht, F, .refl _ _⟩ (HS.refl _ _))

/-! a tuple taken apart -/
def setAll : List Slot → List Nat → List PyData → List Slot
  | ρ, i :: is, d :: ds => setAll (ρ.set i (.val d)) is ds
  | ρ, _, _ => ρ
def tupQ (d : PyData) (Q : List PyData → Prop) : Prop := match d with | .tuple ds => Q ds | _ => False
theorem store_all {E} (xs : List Str) : ∀ (is : List Nat) (us : List Value) (ds : List PyData) {ρ : List Slot} {s : Shared} {Q : Unit → Shared → Prop}, InFr cx fc ns ρ ads σ s → is.length = ds.length → is.map (fun i => ns[i]?) = xs.map some → Rds s.heap (fc.X ads) us ds →
    (∀ s', InFr cx fc ns (setAll ρ is ds) ads σ s' → HS (fc.L :: ads) s.heap s'.heap → Q () s') → wpAny (model cx.prog cx.w) fc.A (assignInOrder (xs.map fun x => bindName fc.env x) us) Q E s := by
  induction xs with
  | nil =>
    intro is us ds ρ s Q F hl hn r h
    cases is with
    | cons _ _ => simp at hn
    | nil =>
    cases r with
    | cons _ _ => simp at hl
    | nil => exact wpAny_pure (h _ F (HS.refl _ _))
  | cons x xs ih =>
    intro is us ds ρ s Q F hl hn r h
    cases is with
    | nil => simp at hn
    | cons i is =>
    cases r with
    | nil => simp at hl
    | @cons u us d ds r rs =>
    simp only [List.map_cons, List.cons.injEq] at hn
    show wpAny _ _ (do holding us (bindName fc.env x u); assignInOrder (xs.map fun x => bindName fc.env x) us) _ _ _
    refine wpAny_bind (wpAny_holding (bindName_ (store_val F hn.1 r fun s₂ F₂ k₂ => ?_)))
    exact ih is us ds F₂ (by simpa using hl) hn.2 (rs.hs k₂ lx fun _ _ q => q) fun s₃ F₃ k₃ => h s₃ F₃ (k₂.trans k₃)

inductive NameElts : List Expr → List Str → Prop
  | nil : NameElts [] []
  | cons {x p es xs} : NameElts es xs → NameElts (.Name x p :: es) (x :: xs)
theorem NameElts.noStar {env : Env} : ∀ {es xs}, NameElts es xs → (assignEach es env).findIdx? (·.1) = none ∧ (assignEach es env).length = xs.length
  | _, _, .nil => ⟨rfl, rfl⟩
  | _, _, .cons (x := x) (p := p) (es := es) h => by
    obtain ⟨h1, h2⟩ := h.noStar (env := env)
    show List.findIdx? _ ((false, assign (.Name x p) env) :: assignEach es env) = none ∧ ((false, assign (.Name x p) env) :: assignEach es env).length = _
    rw [List.findIdx?_cons]
    refine ⟨by simp [h1], by simp [h2]⟩
theorem assign_all {E} {elts : List Expr} {xs : List Str} (ne : NameElts elts xs) : ∀ (is : List Nat) (us : List Value) (ds : List PyData) {ρ : List Slot} {s : Shared} {Q : Unit → Shared → Prop}, InFr cx fc ns ρ ads σ s → is.length = ds.length → is.map (fun i => ns[i]?) = xs.map some → Rds s.heap (fc.X ads) us ds →
    (∀ s', InFr cx fc ns (setAll ρ is ds) ads σ s' → HS (fc.L :: ads) s.heap s'.heap → Q () s') → wpAny (model cx.prog cx.w) fc.A (assignInOrder ((assignEach elts fc.env).map (·.2)) us) Q E s := by
  induction ne with
  | nil =>
    intro is us ds ρ s Q F hl hn r h
    cases is with
    | cons _ _ => simp at hn
    | nil =>
    cases r with
    | cons _ _ => simp at hl
    | nil => exact wpAny_pure (h _ F (HS.refl _ _))
  | @cons x p es xs _ ih =>
    intro is us ds ρ s Q F hl hn r h
    cases is with
    | nil => simp at hn
    | cons i is =>
    cases r with
    | nil => simp at hl
    | @cons u us d ds r rs =>
    simp only [List.map_cons, List.cons.injEq] at hn
    show wpAny _ _ (do holding us (assign (.Name x p) fc.env u); assignInOrder ((assignEach es fc.env).map (·.2)) us) _ _ _
    refine wpAny_bind (wpAny_holding (PyProof.Rows.assign_Name (store_val F hn.1 r fun s₂ F₂ k₂ => ?_)))
    exact ih is us ds F₂ (by simpa using hl) hn.2 (rs.hs k₂ lx fun _ _ q => q) fun s₃ F₃ k₃ => h s₃ F₃ (k₂.trans k₃)

theorem unpack_ok {n : Nat} {u : Value} {ds : List PyData} {Q : List Value → Shared → Prop} {E} (F : InFr cx fc ns ρ ads σ s) (r : Rd s.heap (fc.X ads) u (.tuple ds)) (hn : n = ds.length)
    (h : ∀ us s', InFr cx fc ns ρ ads σ s' → HX s.heap s'.heap → Rds s'.heap (fc.X ads) us ds → Q us s') : wpAny (model cx.prog cx.w) fc.A (unpackItems u n none) Q E s := by
  cases r with
  | @tuple a o vs n' xs ho hc hd hx rs =>
    have hsz : n = vs.size := by rw [hn, ← rs.length]; simp
    subst hsz
    refine unpackItems_tuple rfl ⟨o, ho, hc, n', hd⟩ fun h' he => ?_
    have k : ∀ b o, s.heap.get? b = some o → h'.get? b = some o := fun b o e => he b o (Nat.ne_of_lt (Heap.lt_size e)) e
    exact h _ _ (F.keep k rfl rfl) (HX.of_keep k) (rs.hx (HX.of_keep k))

def tUnpack (is : List Nat) (t : Tr) : Tx := fun ρ σ P => t ρ σ (fun d => tupQ d fun ds => ds.length = is.length ∧ P.nx (setAll ρ is ds) σ) (fun x => P.xx x ρ σ)
theorem SX_unpack {elts : List Expr} {k : Nat} {tpos : Pos} {xs : List Str} {is : List Nat} (h : SE cx fc ns e t) (hxs : is.map (fun i => ns[i]?) = xs.map some)
    (ha : NameElts elts xs)
    (hs : swapsWithSole [.Tuple elts k tpos] e pos.line fc.env = pure false := by rfl) (hw : swappedStores [.Tuple elts k tpos] e fc.env = pure none := by rfl) :
    SX1 cx fc ns (.Assign [.Tuple elts k tpos] e pos) (tUnpack is t) := fun _ _ _ _ _ Q9 _ F ht hQ hX => by
  refine Assign_Tuple (h.inX F ht (fun u d s' hd F' k' r' => ?_) hX) hs hw
  cases d <;> (try exact hd.elim)
  rename_i ds
  obtain ⟨hl, hn⟩ := hd
  have hlen : (assignEach elts fc.env).length = is.length := by
    have := (ha.noStar (env := fc.env)).2; have h2 := congrArg List.length hxs; simp at h2; omega
  cases r' with
  | @tuple a o vs n' xs' ho hc hdd hx rs =>
    have hsz : vs.size = ds.length := by rw [← rs.length]; simp
    refine assign_Tuple_tuple (Q := fun _ => Q9 .next) rfl ⟨o, ho, hc, n', hdd⟩ (by omega) (ha.noStar (env := fc.env)).1 fun h' he => ?_
    have k : ∀ b o, s'.heap.get? b = some o → h'.get? b = some o := fun b o e => he b o (Nat.ne_of_lt (Heap.lt_size e)) e
    refine assign_all (Q := fun _ => Q9 .next) ha is vs.toList ds (s := { s' with heap := h' }) (F'.keep k rfl rfl) hl.symm hxs (rs.hx (HX.of_keep k)) fun s₂ F₂ k₂ => hQ .next _ ⟨_, _, _, hn, F₂, .refl _ _⟩ ((HX.toHS (k'.trans (HX.of_keep k))).trans k₂)
def tUnpackR (is : List Nat) (t : Tr) : Tx := fun ρ σ P => t ρ σ (fun d => tupQ d fun ds => ds.length = is.length ∧ P.nx (setAll ρ is.reverse ds.reverse) σ) (fun x => P.xx x ρ σ)
theorem Rds.reverse {h : Heap} {X : List Addr} : ∀ {v : List Value} {d : List PyData}, Rds h X v d → Rds h X v.reverse d.reverse
  | _, _, .nil => .nil
  | _, _, .cons r s => by rw [List.reverse_cons, List.reverse_cons]; exact Rds.append (.cons r .nil) s.reverse
theorem SX_unpackR {elts : List Expr} {k : Nat} {tpos : Pos} {xs : List Str} {is : List Nat} (h : SE cx fc ns e t) (hxs : is.map (fun i => ns[i]?) = xs.map some)
    (hs : swapsWithSole [.Tuple elts k tpos] e pos.line fc.env = pure false) (hw : swappedStores [.Tuple elts k tpos] e fc.env = pure (some xs)) :
    SX1 cx fc ns (.Assign [.Tuple elts k tpos] e pos) (tUnpackR is t) := fun _ _ _ _ _ _ _ F ht hQ hX => by
  refine Assign_Tuple_swapped (h.inX F ht (fun u d s' hd F' k' r' => ?_) hX) hs hw
  cases d <;> (try exact hd.elim)
  rename_i ds
  obtain ⟨hl, hn⟩ := hd
  have hlen : xs.length = is.length := by have h2 := congrArg List.length hxs; simp at h2; omega
  refine unpack_ok F' r' (by omega) fun us s₂ F₂ k₂ r₂ => ?_
  refine store_all xs.reverse is.reverse us.reverse ds.reverse F₂ (by simp [hl]) (by rw [List.map_reverse, List.map_reverse, hxs]) r₂.reverse fun s₃ F₃ k₃ => hQ .next _ ⟨_, _, _, hn, F₃, .refl _ _⟩ ((HX.toHS (k'.trans k₂)).trans k₃)
end Mine

namespace Mine
open PySem PySem.W PySem.Calls PyProof.Rows PySem.Spec
variable {cx : Cx} {fc : Fc} {ns : List Str} {ρ : List Slot} {ads : List Addr} {σ : List (List PyData)} {s s' : Shared}
variable {e e₁ e₂ l r value slice iter : Expr} {es : List Expr} {t t₁ t₂ tl tr : Tr} {tt tt₁ tt₂ : Tt} {ts : Ts} {p pos apos : Pos} {k : Nat} {kk : PyData → PyData → (PyData → Prop) → Prop}
variable {st : Stmt} {sts body orelse : List Stmt} {tx tx₁ tx₂ : Tx}

/-! loops -/
/-- where a loop's turn stands -/
def At (cx : Cx) (fc : Fc) (ns : List Str) (ads : List Addr) (h₀ : Heap) (J : List Slot → List (List PyData) → Prop) (s : Shared) : Prop :=
  ∃ ρ' ads' σ', J ρ' σ' ∧ InFr cx fc ns ρ' ads' σ' s ∧ Grow h₀ ads ads' ∧ HS (fc.L :: ads) h₀ s.heap

def turnP (P : Post) (J : List Slot → List (List PyData) → Prop) : Post := { nx := J, ct := J, bk := P.nx, rt := P.rt, xx := fun _ _ _ => False }

/-- a turn's body, from where it stands -/
theorem turn_ok (hb : SX cx fc ns body tx) {P : Post} {J : List Slot → List (List PyData) → Prop} {h₀ : Heap} {ads₁ : List Addr} {R : Flow → Shared → Prop} {E}
    (F : InFr cx fc ns ρ ads₁ σ s) (g : Grow h₀ ads ads₁) (k : HS (fc.L :: ads) h₀ s.heap) (ht : tx ρ σ (turnP P J))
    (hJ : ∀ fl s', (fl = .next ∨ fl = .cont) → At cx fc ns ads h₀ J s' → HS (fc.L :: ads₁) s.heap s'.heap → R fl s')
    (hB : ∀ s', At cx fc ns ads h₀ P.nx s' → R .brk s')
    (hR : ∀ u s', FlowIs cx fc ns ads h₀ P (.ret u) s' → HS (fc.L :: ads) h₀ s'.heap → R (.ret u) s') : wpAny (model cx.prog cx.w) fc.A (execs body fc.env) R E s := by
  refine hb _ _ _ _ _ _ _ F ht (fun fl s' hf k' => ?_) fun x u s' ρ' ads' σ' hx => hx.elim
  have k2 := k.grow g k'
  cases fl with
  | next => obtain ⟨ρ₂, ads₂, σ₂, a1, a2, a3⟩ := hf; exact hJ _ _ (.inl rfl) ⟨ρ₂, ads₂, σ₂, a1, a2, g.trans k a3, k2⟩ k'
  | cont => obtain ⟨ρ₂, ads₂, σ₂, a1, a2, a3⟩ := hf; exact hJ _ _ (.inr rfl) ⟨ρ₂, ads₂, σ₂, a1, a2, g.trans k a3, k2⟩ k'
  | brk => obtain ⟨ρ₂, ads₂, σ₂, a1, a2, a3⟩ := hf; exact hB _ ⟨ρ₂, ads₂, σ₂, a1, a2, g.trans k a3, k2⟩
  | ret v => obtain ⟨ρ₂, ads₂, σ₂, d, a1, a2, a3, a4⟩ := hf; exact hR _ _ ⟨ρ₂, ads₂, σ₂, d, a1, a2, g.trans k a3, a4⟩ k2

def tWhile (c : Tt) (b : Tx) : Tx := fun ρ σ P => ∃ I : Nat → List Slot → List (List PyData) → Prop, (∃ n, I n ρ σ) ∧
  ∀ n ρ σ, I n ρ σ → c ρ σ (fun x => (x = true → b ρ σ (turnP P fun ρ σ => ∃ m, m < n ∧ I m ρ σ)) ∧ (x = false → P.nx ρ σ)) (fun _ => False)
theorem SX_while (h : ST cx fc ns e tt) (hb : SX cx fc ns body tx) : SX1 cx fc ns (.While e body [] pos) (tWhile tt tx) := fun ρ ads σ s P Q' E' F ht hQ hX => by
  obtain ⟨I, ⟨n, h0⟩, turn⟩ := ht
  refine PySem.wpAny_While (PySem.codeAny_whileLoop (fun n s' => At cx fc ns ads s.heap (I n) s') ?_ n ⟨ρ, ads, σ, h0, F, .refl _ _, HS.refl _ _⟩)
  rintro n s₁ ⟨ρ₁, ads₁, σ₁, hI, F₁, g₁, k₁⟩
  refine h _ _ _ _ _ _ _ _ F₁ (turn n ρ₁ σ₁ hI) (fun b s₂ hbb F₂ k₂ => ?_) fun _ _ _ hx => hx.elim
  have k12 : HS (fc.L :: ads) s.heap s₂.heap := k₁.trans k₂.toHS
  cases b with
  | false =>
    rw [if_neg (by decide)]
    exact PySem.wpAny_execs_nil (hQ .next _ ⟨_, _, _, hbb.2 rfl, F₂, g₁⟩ k12)
  | true =>
    rw [if_pos rfl]
    refine turn_ok hb F₂ g₁ k12 (hbb.1 rfl) ?_ ?_ ?_
    · rintro fl s₃ hfl ⟨ρ₃, ads₃, σ₃, ⟨m, hm, hI₃⟩, F₃, g₃, k₃⟩ _
      rcases hfl with rfl | rfl <;> exact ⟨m, hm, ρ₃, ads₃, σ₃, hI₃, F₃, g₃, k₃⟩
    · rintro s₃ ⟨ρ₃, ads₃, σ₃, hn, F₃, g₃, k₃⟩
      exact hQ .next _ ⟨_, _, _, hn, F₃, g₃⟩ k₃
    · intro u s₃ hf k₃; exact hQ _ _ hf k₃

def listQ (d : PyData) (Q : List PyData → Prop) : Prop := match d with | .list ds => Q ds | _ => False
def tFor (j : Nat) (t : Tr) (b : Tx) : Tx := fun ρ σ P => t ρ σ (fun d => listQ d fun ds => ∃ I : Nat → List Slot → List (List PyData) → Prop, I 0 ρ σ ∧
  (∀ k d, ds[k]? = some d → ∀ ρ σ, I k ρ σ → b (ρ.set j (.val d)) σ (turnP P (I (k + 1)))) ∧ (∀ ρ σ, I ds.length ρ σ → P.nx ρ σ)) (fun x => P.xx x ρ σ)

theorem not_cd {o : Obj} {c : String} (h : o.cls = .type c) (hc : c ≠ "code") : ¬ Cd o := fun ⟨q, _⟩ => by
  rcases q with q | q <;> rw [h] at q
  · cases q
  · exact hc (Value.type.inj q)
theorem HS.sb {S : List Addr} {h h₁ h₂ : Heap} {it : Addr} (x : HS S h h₁) (hk : ∀ b o, b ≠ it → h₁.get? b = some o → h₂.get? b = some o) (hn : h.get? it = none) : HS S h h₂ := fun b o e => by
  obtain ⟨o', h1, h2⟩ := x b o e
  exact ⟨o', hk b o' (fun q => by subst q; rw [hn] at e; cases e) h1, h2⟩
theorem Rd.sb {X : List Addr} {h h' : Heap} {it : Addr} {oi : Obj} {vs : Array Value} {u d} (r : Rd h X u d) (hi : h.get? it = some oi) (hd : oi.data = .fields vs) (hk : ∀ b o, b ≠ it → h.get? b = some o → h'.get? b = some o) : Rd h' X u d :=
  r.mono fun b o vs n ho hdd hx => ⟨hk b o (fun q => by subst q; rw [hi] at ho; injection ho with ho; subst ho; rw [hd] at hdd; cases hdd) ho, hx⟩
theorem InFr.fresh_fb (F : InFr cx fc ns ρ ads σ s) : s.heap.objs.size ∉ fc.fb := fun h => F.newX (.tail _ (List.mem_append_right _ h))
theorem sb_some {it : Addr} {h h' : Heap} {o : Obj} (hs : Heap.SameBut it h h') (ho : h'.get? it = some o) : ∃ o, h'.get? it = some o := ⟨_, ho⟩
theorem InFr.lowN (F : InFr cx fc ns ρ ads σ s) : cx.N ≤ s.heap.objs.size := let ⟨_, g⟩ := F.gi; cx.low _ _ g

theorem fresh0 {h h₁ : Heap} (k : HX h h₁) : h.get? h₁.objs.size = none := by
  cases z : h.get? h₁.objs.size with
  | none => rfl
  | some o => obtain ⟨o', h1, _⟩ := k _ o z; exact absurd (Heap.lt_size h1) (Nat.lt_irrefl _)

theorem SX_for {j : Nat} {x : Str} (hx : ns[j]? = some x) (h : SE cx fc ns iter t) (hb : SX cx fc ns body tx) (hs : ∀ x, foldedSetIterable iter fc.env x = pure x := by intro _; rfl)
    (ho : ∀ it v, letOwnedTupleGo (.Name x p) it v = pure () := by intro _ _; rfl) : SX1 cx fc ns (.For (.Name x p) iter body [] pos) (tFor j t tx) := fun ρ ads σ s P Q' E' F ht hQ hX => by
  refine PySem.wpAny_For (h.inX F ht (fun u d s₀ hd F₀ k₀ r₀ => ?_) hX) hs
  cases d <;> (try exact hd.elim)
  rename_i ds
  obtain ⟨I, h0, turn, fin⟩ := hd
  cases r₀ with
  | @list a o vs n xs hao hc hdd hax rs =>
  have hl : s₀.heap.IsList a vs := ⟨o, hao, hc, n, hdd⟩
  refine wpAny_pyIter_list hl ?_
  have F₁ := F₀.push { cls := .type "list_iterator", data := .fields #[.ref a, .int 0 0] }
  have hN := F₀.lowN
  have hlt : ∀ b, (s₀.heap.get? b).isSome → b ≠ s₀.heap.objs.size := fun b hb q => by
    cases z : s₀.heap.get? b with
    | none => rw [z] at hb; cases hb
    | some o => exact Nat.ne_of_lt (Heap.lt_size z) q
  have hsz : vs.size = ds.length := by rw [← rs.length]; simp
  refine PySem.codeAny_forLoop (fun n s' => ∃ i, n = ds.length + 1 - i ∧ i ≤ ds.length ∧ At cx fc ns ads s₀.heap (I i) s' ∧ s'.heap.IsListIter s₀.heap.objs.size a i) ?_ (ds.length + 1)
    ⟨0, rfl, Nat.zero_le _, ⟨ρ, ads, σ, h0, F₁, .refl _ _, HX.of_keep fun _ _ e => Heap.get?_push_of_some _ e⟩, ⟨_, Heap.get?_push_size _ rfl, rfl, rfl⟩⟩ (ho _)
  rintro n s₁ ⟨i, rfl, hi, ⟨ρ₁, ads₁, σ₁, hI, F₁, g₁, k₁⟩, hit⟩
  have hal : s₁.heap.IsList a vs := ⟨o, k₁.get hao (not_tb_seq hdd) fun q => hax (lx _ q), hc, _, hdd⟩
  have rs₁ : Rds s₁.heap (fc.X ads₁) vs.toList ds := rs.hs k₁ lx fun b hb q => by
    rcases List.mem_cons.mp q with rfl | q
    · exact .head _
    · rcases List.mem_append.mp q with q | q
      · rcases g₁ b q with z | z
        · exact .tail _ (List.mem_append_left _ z)
        · rw [z] at hb; cases hb
      · exact .tail _ (List.mem_append_right _ q)
  have kI : HS (fc.L :: ads) s.heap s₁.heap := k₀.toHS.trans k₁
  cases hv : vs[i]? with
  | none =>
    have hii : i = ds.length := by have : vs.size ≤ i := by simpa using hv
                                   omega
    subst hii
    obtain ⟨oi, hoi, hci, hdi⟩ := id hit
    refine wpAny_pyNext_list_end rfl hit hal hv fun h₂ he => PySem.wpAny_execs_nil ?_
    have F₂ : InFr cx fc ns ρ₁ ads₁ σ₁ { s₁ with heap := h₂ } := F₁.touch hN hoi hdi (not_cd hci (by decide)) he F₀.fresh_fb rfl rfl
    refine hQ .next _ ⟨_, _, _, fin _ _ hI, F₂, (Grow.refl _ _).trans k₀ g₁⟩ (HS.sb kI he ?_)
    exact fresh0 k₀
  | some v =>
    have hlt2 : i < vs.size := (Array.getElem?_eq_some_iff.mp hv).1
    obtain ⟨oi, hoi, hci, hdi⟩ := id hit
    refine wpAny_pyNext_list_item hit hal hv fun h₂ hit₂ hs₂ => ?_
    have he : ∀ b o, b ≠ s₀.heap.objs.size → s₁.heap.get? b = some o → h₂.get? b = some o := fun b o hb e => (hs₂.2 b hb).trans e
    have F₂ : InFr cx fc ns ρ₁ ads₁ σ₁ { s₁ with heap := h₂ } := F₁.touch hN hoi hdi (not_cd hci (by decide)) he F₀.fresh_fb rfl rfl
    have k₂ : HS (fc.L :: ads) s₀.heap h₂ := k₁.sb he (fresh0 (HS.refl _ _))
    have hdk : ds[i]? = some (ds[i]'(by omega)) := List.getElem?_eq_getElem (by omega)
    obtain ⟨u, hu, ru⟩ := rs₁.get _ _ hdk
    have huv : u = v := by
      have : vs.toList[i]? = some v := by simpa using hv
      rw [hu] at this; exact Option.some.inj this
    subst huv
    refine PySem.wpAny_assign_Name (store_val F₂ hx (ru.sb hoi hdi he) fun s₃ F₃ k₃ => ?_)
    have k₃' : HS (fc.L :: ads) s₀.heap s₃.heap := k₂.grow g₁ k₃
    refine turn_ok hb F₃ g₁ k₃' (turn i _ hdk _ _ hI) (fun fl s₄ hfl hA k₄ => ?_) (fun s₄ hA => ?_) fun u s₄ hf k₄ => hQ _ _ (hf.pre k₀) (k₀.toHS.trans k₄)
    · obtain ⟨oi₂, hoi₂, hci₂, hdi₂⟩ := id hit₂
      have hnb : ∀ {h : Heap} {ρ s} (F : InFr cx fc ns ρ ads₁ σ₁ s) (ho : s.heap.get? s₀.heap.objs.size = some oi₂), s₀.heap.objs.size ∉ fc.L :: ads₁ := fun {h ρ s} F ho q => by
        rcases List.mem_cons.mp q with q | q
        · obtain ⟨m, ⟨o', es, ep, g1, g2, _⟩, _⟩ := F.env
          rw [← q, ho] at g1; injection g1 with g1; subst g1; rw [hdi₂] at g2; cases g2
        · obtain ⟨_, o', _, _, g1, _, g2⟩ := F.own_mem q
          rw [ho] at g1; injection g1 with g1; subst g1; rw [hdi₂] at g2; cases g2
      have hntb : ¬ Tb oi₂ := fun ⟨q, _⟩ => by rw [hci₂] at q; cases q
      have hnm := hnb (h := h₂) F₂ hoi₂
      have h3 := k₃.get hoi₂ hntb hnm
      have h4 := k₄.get h3 hntb hnm
      have fin2 : ∃ m, m < ds.length + 1 - i ∧ ∃ i, m = ds.length + 1 - i ∧ i ≤ ds.length ∧ At cx fc ns ads s₀.heap (I i) s₄ ∧ s₄.heap.IsListIter s₀.heap.objs.size a i :=
        ⟨ds.length + 1 - (i + 1), by omega, i + 1, rfl, by omega, hA, ⟨_, h4, hci₂, hdi₂⟩⟩
      rcases hfl with rfl | rfl <;> exact fin2
    · obtain ⟨ρ₅, ads₅, σ₅, hn, F₅, g₅, k₅⟩ := hA
      exact hQ .next _ ⟨_, _, _, hn, F₅, (Grow.refl _ _).trans k₀ g₅⟩ (k₀.toHS.trans k₅)
end Mine

namespace Mine
open PySem PySem.W PySem.Calls PyProof.Rows PySem.Spec
variable {cx : Cx} {fc : Fc} {ns : List Str} {ρ : List Slot} {ads : List Addr} {σ : List (List PyData)} {s s' : Shared}
variable {e e₁ e₂ l r value slice iter : Expr} {es : List Expr} {t t₁ t₂ tl tr : Tr} {tt tt₁ tt₂ : Tt} {ts : Ts} {p pos apos : Pos} {k : Nat} {kk : PyData → PyData → (PyData → Prop) → Prop}
variable {st : Stmt} {sts body orelse : List Stmt} {tx tx₁ tx₂ : Tx}

/-- what a call of a def gives -/
def CallOK (cx : Cx) (f : Addr) (rk : Nat) (args : List PyData) (out : Except Exn PyData) : Prop :=
  ∀ fc ns ρ ads σ s us (Q' : Value → Shared → Prop) E', InFr cx fc ns ρ ads σ s → rk < fc.rk → Rds s.heap (fc.X ads) us args →
    (∀ d u s', out = .ok d → InFr cx fc ns ρ ads σ s' → HX s.heap s'.heap → Rd s'.heap (fc.X ads) u d → Q' u s') →
    (∀ x u s', out = .error x → InFr cx fc ns ρ ads σ s' → Flies cx fc x u s.heap [] s' → E' u s') →
    wpAny (model cx.prog cx.w) fc.A (call (.ref f) us) Q' E' s

def outQ (out : Except Exn PyData) (Q : PyData → Prop) (X : Exn → Prop) : Prop := match out with | .ok d => Q d | .error x => X x
def tCall (cx : Cx) (n : Nat) (f : Addr) (ts : Ts) : Tr := fun ρ σ Q X => ts ρ σ (fun ds => ∃ out r, CallOK cx f r ds out ∧ r < n ∧ outQ out Q X) X
theorem SE_call {x : Str} {f : Addr} {o : Obj} {fd : FuncData} (hx : fc.cs.names.lookup x = some .globalImplicit) (hv : nsIn cx.K mainGlobals x = some (some (.ref f))) (ho : cx.K.lookup f = some o) (hf : o.data = .func fd)
    (hs : SEs cx fc ns (e :: es) ts) (he : starEach (e :: es) fc.env = (false, eval e fc.env) :: starEach es fc.env := by rfl) (hd : (x == ("__debug__" : Str)) = false := by decide) :
    SE cx fc ns (.Call (.Name x p) (e :: es) [] pos) (tCall cx fc.rk f ts) := fun _ _ _ _ _ _ _ _ F ht hQ hX => by
  refine Call_ (Name_function_global (env := fc.env) F.hk hx (loadGlobal_global (env := fc.env) F.top.g (mg_of F.kin F.top.g hv) ?_) hd)
  refine callWith_def hf (hs _ _ _ _ _ _ _ _ _ F ht (fun us ds s₁ h₁ F₁ k₁ r₁ => ⟨F₁.kin _ _ ho, ?_⟩) hX) he
  obtain ⟨out, r, hc, hr, hq⟩ := h₁
  refine hc _ _ _ _ _ _ _ _ _ F₁ hr r₁ (fun d u s₂ ho F₂ k₂ r₂ => ?_) fun x u s₂ ho F₂ fl => ?_
  · subst ho; exact hQ _ _ _ hq F₂ (k₁.trans k₂) r₂
  · subst ho; exact hX _ _ _ hq F₂ (fl.hx k₁)

/-! an exception leaves a frame -/
theorem FramesIs.fun {h B : Heap} {N : Nat} : ∀ {l : List Env}, FramesIs h N l → (∀ env ∈ l, ∀ a, env.frame = some a → B.get? a = none) → h.FunFrames B l
  | [], _, _ => trivial
  | env :: r, ⟨hf, ⟨L, o, es, n, h1, h2, h3, h4⟩, hr⟩, hB => ⟨by rw [hf]; decide, ⟨L, o, h1, hB env (.head _) L h1, h3, fun vs q => by rw [h4] at q; cases q⟩, hr.fun fun e he => hB e (.tail _ he)⟩
theorem FramesIs.mem {h : Heap} {N : Nat} : ∀ {l : List Env}, FramesIs h N l → ∀ b ∈ l.filterMap (·.frame), N ≤ b ∧ ∃ o es n, h.get? b = some o ∧ o.data = .dict es n
  | env :: r, ⟨hf, ⟨L, o, es, n, h1, h2, h3, h4⟩, hr⟩, b, hb => by
    rw [List.filterMap_cons, h1] at hb
    rcases List.mem_cons.mp hb with rfl | hb
    · exact ⟨h2, o, es, n, h3, h4⟩
    · exact hr.mem b hb

theorem FramesIs.mono'' {h h' : Heap} {N : Nat} : ∀ {l : List Env}, FramesIs h N l → (∀ b ∈ l.filterMap (·.frame), ∀ o es n, h.get? b = some o → o.data = .dict es n → ∃ o', h'.get? b = some o' ∧ o'.data = o.data) → FramesIs h' N l
  | [], _, _ => trivial
  | env :: r, ⟨hf, ⟨L, o, es, n, h1, h2, h3, h4⟩, hr⟩, hk => by
    rw [List.filterMap_cons, h1] at hk
    obtain ⟨o', h5, h6⟩ := hk L (.head _) o es n h3 h4
    exact ⟨hf, ⟨L, o', es, n, h1, h2, h5, h6.trans h4⟩, hr.mono'' fun b hb => hk b (.tail _ hb)⟩

/-- an exception's heap behind a frame that it left -/
def Gone (cx : Cx) (envs : List Env) (fs : List Addr) (x : Exn) (u : Value) (h₀ : Heap) (S : List Addr) (h₁ : Heap) (s'' : Shared) : Prop :=
  ∃ e w B a0, u = .ref e ∧ cx.GI w s'' ∧ Heap.FlyingW B envs e (x.cls cx) a0 s''.heap ∧ (∀ b o, s''.heap.get? b = some o → (cx.I b ∨ b ∈ w) → B.get? b = some o) ∧
    (∀ b o, h₀.get? b = some o → b ∉ fs → ∃ o', B.get? b = some o' ∧ (¬ Tb o → b ∉ S → o' = o)) ∧ h₁.UpToSlots s''.heap ∧ (∀ b, (h₀.get? b).isSome → (s''.heap.get? b).isSome)

theorem leave_ok {x : Exn} {u : Value} {h₀ : Heap} {S : List Addr} {Q : Unit → Shared → Prop} {E} (F : InFr cx fc ns ρ ads σ s) (f : Flies cx fc x u h₀ S s)
    (hQ : ∀ s'', Gone cx fc.outer fc.fs x u h₀ S s.heap s'' → Q () s'') : wpAny (model cx.prog cx.w) fc.A (leaving fc.env u) Q E s := by
  obtain ⟨e, w, rfl, fg, f1, f3, f2⟩ := f
  have hfs := F.frs.mem
  have hin : ∀ {l : List Env}, ∀ env ∈ l, ∀ a, env.frame = some a → a ∈ l.filterMap (·.frame) := fun env he a ha => List.mem_filterMap.mpr ⟨env, he, ha⟩
  rcases f2 with ⟨oe, t, h1, h2, h3, h4, h5⟩ | ⟨B, a0, h1, hw, h2⟩
  · have hnot : ∀ b o, s.heap.get? b = some o → (cx.I b ∨ b ∈ w) → b ∉ e :: fc.fs := fun b o hb hi q => by
      rcases List.mem_cons.mp q with rfl | q
      · rcases hi with hi | hi
        · exact h5 hi
        · obtain ⟨o9, h9, hc9⟩ := cx.whas _ _ _ fg hi
          rw [h1] at h9; injection h9 with h9; subst h9
          obtain ⟨hc9, _⟩ := hc9
          rcases hc9 with q | q <;> (rw [h2] at q; cases x <;> simp [Exn.cls] at q)
      · obtain ⟨hN, o', es, n, h6, h7⟩ := hfs b q
        rcases hi with hi | hi
        · exact absurd hN (Nat.not_le.mpr (cx.ilt _ hi))
        · obtain ⟨o9, h9, _, vs, hv⟩ := cx.whas _ _ _ fg hi
          rw [h6] at h9; injection h9 with h9; subst h9; rw [h7] at hv; cases hv
    have hef : e ∉ fc.fs := fun q => by
      obtain ⟨_, o', es, n, h6, h7⟩ := hfs e q
      rw [h1] at h6; injection h6 with h6; subst h6; rw [h3] at h7; cases h7
    refine wpAny_leaving_firstW (base := hideAll s.heap (e :: fc.fs)) (a0 := t) rfl (F.frs.fun fun env he a ha => hideAll_none _ (.tail _ (hin env he a ha))) rfl h1 (fun b o hb => of_hideAll _ hb) (hideAll_none _ (.head _)) h3 rfl rfl fun h' hL => ?_
    obtain ⟨k1, k2, k3, k4⟩ := hL
    refine hQ _ ⟨e, w, _, t, rfl, cx.stable _ _ _ fg rfl rfl fun b o hb hi => k1 _ _ (hideAll_get _ hb (hnot b o hb hi)), ⟨k1, hideAll_none _ (.head _), k2.2.2, by rw [← h2]; exact k3⟩, fun b o hb hi => ?_, fun b o hb hnf => ?_, k4, fun b hb => ?_⟩
    · obtain ⟨o9, h9⟩ : ∃ o, s.heap.get? b = some o := by
        rcases hi with hi | hi
        · exact cx.ihas _ _ _ fg hi
        · obtain ⟨o, ho, _⟩ := cx.whas _ _ _ fg hi; exact ⟨o, ho⟩
      have h10 := hideAll_get (e :: fc.fs) h9 (hnot b o9 h9 hi)
      have h11 := k1 _ _ h10
      have : (some o9 : Option Obj) = some o := h11.symm.trans hb
      injection this with this; subst this; exact h10
    · obtain ⟨o', h6, h7⟩ := f1 b o hb
      refine ⟨o', hideAll_get _ h6 fun q => ?_, fun hn hs => h7 hn fun q => (List.mem_append.mp q).elim hs hnf⟩
      rcases List.mem_cons.mp q with rfl | q
      · rw [h4] at hb; cases hb
      · exact hnf q
    · cases q : h₀.get? b with
      | none => rw [q] at hb; cases hb
      | some o =>
        obtain ⟨o', h6, _⟩ := f1 b o q
        by_cases hbe : b ∈ e :: fc.fs
        · rcases List.mem_cons.mp hbe with rfl | hbe
          · rw [h4] at q; cases q
          · obtain ⟨_, o9, es, n, h8, h9⟩ := hfs b hbe
            obtain ⟨sl, h10⟩ := k4 b o9 h8 fun vs z => by rw [h9] at z; cases z
            show (h'.get? b).isSome = true
            rw [h10]; rfl
        · show (h'.get? b).isSome = true
          rw [k1 _ _ (hideAll_get _ h6 hbe)]; rfl
  · refine wpAny_leaves_onW rfl rfl h1 fun h' x1 x2 => ?_
    have kk : ∀ b, (cx.I b ∨ b ∈ w) → ∀ o, s.heap.get? b = some o → h'.get? b = some o := fun b hi o hb => x1.1 _ _ (hw b o hb hi)
    refine hQ _ ⟨e, w, B, a0, rfl, cx.stable _ _ _ fg rfl rfl fun b o hb hi => kk b hi o hb, x1, fun b o hb hi => ?_, h2, x2, fun b hb => ?_⟩
    · obtain ⟨o9, h9⟩ : ∃ o, s.heap.get? b = some o := by
        rcases hi with hi | hi
        · exact cx.ihas _ _ _ fg hi
        · obtain ⟨o, ho, _⟩ := cx.whas _ _ _ fg hi; exact ⟨o, ho⟩
      have h10 := kk b hi o9 h9
      have : (some o9 : Option Obj) = some o := h10.symm.trans hb
      injection this with this; subst this
      exact hw b _ h9 hi
    · by_cases hbf : b ∈ fc.fs
      · obtain ⟨_, o9, es, n, h8, h9⟩ := hfs b hbf
        obtain ⟨sl, h10⟩ := x2 b o9 h8 fun vs z => by rw [h9] at z; cases z
        show (h'.get? b).isSome = true
        rw [h10]; rfl
      · cases q : h₀.get? b with
        | none => rw [q] at hb; cases hb
        | some o =>
          obtain ⟨o', h6, _⟩ := h2 b o q hbf
          show (h'.get? b).isSome = true
          rw [x1.1 _ _ h6]; rfl

/-! a def's contract from its body -/
theorem zip_lookup {xs : List Str} (hn : xs.Nodup) : ∀ {us : List Value} {i : Nat} {x : Str} {u : Value}, xs.length = us.length → xs[i]? = some x → us[i]? = some u → (xs.zip us).reverse.lookup x = some u := by
  induction xs with
  | nil => intro us i x u _ h; simp at h
  | cons y ys ih =>
    intro us i x u hl hx hu
    cases us with
    | nil => simp at hu
    | cons v vs =>
    have hn' := List.nodup_cons.mp hn
    rw [List.zip_cons_cons, List.reverse_cons, List.lookup_append]
    cases i with
    | zero =>
      simp at hx hu; subst hx; subst hu
      have : (ys.zip vs).reverse.lookup y = none := by
        rw [List.lookup_eq_none_iff]
        intro q hq
        have hq' := List.mem_reverse.mp hq
        have h9 := (List.of_mem_zip (show (q.1, q.2) ∈ ys.zip vs from hq')).1
        exact bne_iff_ne.mpr fun z => hn'.1 (by rw [z]; exact h9)
      rw [this]; simp
    | succ i =>
      rw [ih hn'.2 (by simpa using hl) (by simpa using hx) (by simpa using hu)]; rfl

def callPost (out : Except Exn PyData) : Post := { nx := fun _ _ => out = .ok .none, rt := fun d => out = .ok d, bk := fun _ _ => False, ct := fun _ _ => False, xx := fun x _ _ => out = .error x }
def valSlots (ds : List PyData) (n : Nat) : List Slot := ds.map .val ++ List.replicate n .undef

theorem call_okC {f : Addr} {rk n : Nat} {args dfl : List PyData} {out : Except Exn PyData} {name qual : Str} {params : Arguments} {body : List Stmt} {scope : Scope} {dV kV doc pm cdv ct oc : Value} {an od : Option Addr} {osl : Array (Option Value)}
    {K₀ : Frag} (xs : List Str) (ns : List Str) (dvs : List Value) (hK₀ : cx.K = K₀)
    (ho : K₀.lookup f = some ⟨oc, od, .func (fnOf name qual params body scope dV kV doc pm an cdv ct), osl⟩) (hcd : codeIn K₀ cdv qual = true)
    (hb : ∀ (us : List Value) (s : Shared), us.length = args.length → cx.K.In s.heap → BindsTo s (fnOf name qual params body scope dV kV doc pm an cdv ct) ⟨us, []⟩ (xs.zip (us ++ dvs)))
    (hdv : ∀ h X, cx.K.In h → (∀ b ∈ X, cx.N ≤ b) → Rds h X dvs dfl)
    (hxl : xs.length = (args ++ dfl).length) (hxn : ∀ (i : Nat) x, xs[i]? = some x → ns[i]? = some x) (hns : ∀ x ∈ ns, scope.names.lookup x = some .local) (hnd : ns.Nodup)
    (hk : scope.kind = .function) (hco : scope.isCoroutine = false) (hgen : scope.isGenerator = false) (hcell : ∀ x ∈ scope.names, x.2 ≠ .cell)
    (hbody : ∀ fc : Fc, fc.cs = scope → fc.rk = rk → fc.cd = cdv → SX cx fc ns body tx)
    (hvc : tx (valSlots (args ++ dfl) n) [] (callPost out)) : CallOK cx f rk args out := by
  subst hK₀
  intro fc ns₀ ρ ads σ s us Q' E' F hr ra hQ hX
  have hul := ra.length
  have hxnd : xs.Nodup := by
    rw [List.nodup_iff_pairwise_ne, List.pairwise_iff_getElem]
    intro i j hi hj hij he
    have h1 := hxn i _ (List.getElem?_eq_getElem hi)
    have h2 := hxn j _ (List.getElem?_eq_getElem hj)
    obtain ⟨h3, h4⟩ := List.getElem?_eq_some_iff.mp h1
    obtain ⟨h5, h6⟩ := List.getElem?_eq_some_iff.mp h2
    rw [List.nodup_iff_pairwise_ne, List.pairwise_iff_getElem] at hnd
    exact hnd i j h3 h5 hij (h4.trans (he.trans h6.symm))
  have hroom : fc.dp < recursionLimit := by have := F.rmd; omega
  refine wpAny_call (codeAny_call_def (fd := fnOf name qual params body scope dV kV doc pm an cdv ct) (body := body) hroom (F.kin _ _ ho) rfl F.top.nolimit (codeRec_of F.kin hcd) rfl (hb us s hul F.kin) hcell
    (fun y hy => hns _ (by
      obtain ⟨h1, _⟩ := List.of_mem_zip (show (y.1, y.2) ∈ xs.zip (us ++ dvs) from hy)
      obtain ⟨i, hi, he⟩ := List.getElem_of_mem h1
      exact List.mem_of_getElem? (hxn i _ (by rw [List.getElem?_eq_getElem hi, he])))) (fun h₀ hns₀ hk₀ => ?_) hco hgen hk)
  have hdr : Rds s.heap (fc.X ads) dvs dfl := hdv _ _ F.kin F.xN
  have hall : Rds s.heap (fc.X ads) (us ++ dvs) (args ++ dfl) := Rds.append hdr ra
  have s1 : { s with heap := h₀, toks := s.toks + (xs.zip (us ++ dvs)).length } = ({ s with heap := h₀, toks := s.toks + (xs.zip (us ++ dvs)).length } : Shared) := rfl
  have F₁ : InFr cx fc ns₀ ρ ads σ { s with heap := h₀, toks := s.toks + (xs.zip (us ++ dvs)).length } := F.keep hk₀ rfl rfl
  let fc' : Fc := { cn := qual, cs := scope, L := s.heap.objs.size, a := f, cd := cdv, outer := fc.env :: fc.outer, fb := fc.X ads, dp := fc.dp + 1, un := fc.un + 3, gd := fc.gd, rk := rk }
  have hlow := F.lowN
  have F' : InFr cx fc' ns (valSlots (args ++ dfl) n) [] [] { s with heap := h₀, toks := s.toks + (xs.zip (us ++ dvs)).length } := by
    refine ⟨F₁.kin, F₁.top, F₁.gi, ⟨_, hns₀, fun i x sl hi hsl => ?_⟩, hlow, ⟨rfl, List.nodup_nil, fun k a ds h => by simp at h⟩, ⟨hk, ?_, F₁.frs⟩, fun x hx => ⟨F.xN x hx, ?_⟩, hns, hnd, hk, ?_, ?_⟩
    · unfold valSlots at hsl
      by_cases hlt : i < (args ++ dfl).length
      · rw [List.getElem?_append_left (by simpa using hlt), List.getElem?_map, List.getElem?_eq_getElem hlt] at hsl
        have : sl = .val (args ++ dfl)[i] := (Option.some.inj hsl).symm
        subst this
        obtain ⟨u, hu, ru⟩ := hall.get i _ (List.getElem?_eq_getElem hlt)
        have hxi : xs[i]? = some x := by
          have h1 : xs[i]? = some (xs[i]'(by omega)) := List.getElem?_eq_getElem (by omega)
          have h2 := hxn i _ h1
          rw [hi] at h2; rw [h1, Option.some.inj h2]
        refine ⟨u, zip_lookup hxnd (by rw [hxl, hall.length]) hxi hu, (ru.hx (HX.of_keep hk₀)).mono fun b o vs n ho hd hx => ⟨ho, fun q => ?_⟩⟩
        rcases List.mem_cons.mp q with q | q
        · obtain ⟨o9, _, _, h9, h10, _⟩ := hns₀
          rw [q, h9] at ho; injection ho with ho; subst ho; rw [h10] at hd; cases hd
        · exact hx q
      · rw [List.getElem?_append_right (by simpa using hlt)] at hsl
        obtain ⟨h1, h2⟩ := List.getElem?_eq_some_iff.mp hsl
        rw [List.getElem_replicate] at h2
        subst h2; trivial
    · obtain ⟨o9, es, ep, h9, h10, _⟩ := hns₀
      exact ⟨_, o9, es, ep, rfl, hlow, h9, h10⟩
    · rcases List.mem_cons.mp hx with rfl | hx
      · obtain ⟨m, ⟨o9, _, _, h9, _⟩, _⟩ := F₁.env; exact ⟨_, h9⟩
      · rcases List.mem_append.mp hx with hx | hx
        · obtain ⟨_, o9, _, _, h9, _⟩ := F₁.own_mem hx; exact ⟨_, h9⟩
        · exact (F₁.fbs x hx).2
    · have := F.rmd; show fc.dp + 1 + rk < recursionLimit; omega
    · have := F.rmu; show fc.un + 3 + 8 * rk + 100 < cLine; omega
  have sub : ∀ {ads' : List Addr}, ∀ b ∈ fc.X ads, b ∈ fc'.X ads' := fun {ads'} b hb => .tail _ (List.mem_append_right _ hb)
  have toX : ∀ {h : Heap}, HS [s.heap.objs.size] h₀ h → HX s.heap h := fun {h} k b o e => by
    obtain ⟨o', h1, h2⟩ := k b o (hk₀ b o e)
    exact ⟨o', h1, fun hn _ => h2 hn fun q => by rw [List.mem_singleton.mp q] at e; exact absurd (Heap.lt_size e) (Nat.lt_irrefl _)⟩
  refine (hbody fc' rfl rfl rfl) _ _ _ _ _ _ _ F' hvc (fun fl s' hf k' => ?_) fun x u s' ρ' ads' σ' hx F₂ g fl => ?_
  · have kX := toX k'
    cases fl with
    | next =>
      obtain ⟨ρ₂, ads₂, σ₂, a1, a2, a3⟩ := hf
      exact hQ _ _ _ a1 (F.ev kX a2.gi) kX .none
    | brk => obtain ⟨ρ₂, ads₂, σ₂, a1, a2, a3⟩ := hf; exact a1.elim
    | cont => obtain ⟨ρ₂, ads₂, σ₂, a1, a2, a3⟩ := hf; exact a1.elim
    | ret u =>
      obtain ⟨ρ₂, ads₂, σ₂, d, a1, a2, a3, a4⟩ := hf
      exact hQ _ _ _ a1 (F.ev kX a2.gi) kX (a4.mono fun b o vs n ho hd hx => ⟨ho, fun q => hx (sub b q)⟩)
  · refine leave_ok F₂ fl fun s'' gone => ?_
    obtain ⟨e, w, B, a0, rfl, fg, hfl, hw, hB, hup, hex⟩ := gone
    -- what the caller had stands
    have fsz : fc'.fs = s.heap.objs.size :: fc.fs := rfl
    have hfs := F.frs.mem
    have hkp : ∀ b o, s.heap.get? b = some o → ¬ Tb o → b ∉ fc.fs → s''.heap.get? b = some o := fun b o hb hn hs => by
      have hbn : b ≠ s.heap.objs.size := Nat.ne_of_lt (Heap.lt_size hb)
      obtain ⟨o', h1, h2⟩ := hB b o (hk₀ b o hb) fun q => by
        rw [fsz] at q
        rcases List.mem_cons.mp q with q | q
        · exact hbn q
        · exact hs q
      have := h2 hn fun q => hbn (List.mem_singleton.mp q)
      subst this
      exact hfl.1 _ _ h1
    have hHS : HS ([] ++ fc.fs) s.heap s''.heap := fun b o hb => by
      have h1 := hex b (by rw [hk₀ b o hb]; rfl)
      cases q : s''.heap.get? b with
      | none => rw [q] at h1; cases h1
      | some o' =>
        refine ⟨o', rfl, fun hn hs => ?_⟩
        have := hkp b o hb hn hs
        rw [q] at this; exact Option.some.inj this
    have hdict : ∀ b ∈ fc.fs, ∀ o es n, s.heap.get? b = some o → o.data = .dict es n → ∃ o', s''.heap.get? b = some o' ∧ o'.data = o.data := fun b hb o es n ho hd => by
      obtain ⟨_, _, _, _, _, f3, _⟩ := fl
      obtain ⟨o', h1, h2⟩ := f3 b (by rw [fsz]; exact .tail _ hb) (fun q => Nat.ne_of_lt (Heap.lt_size ho) (List.mem_singleton.mp q)) o es n (hk₀ b o ho) hd
      obtain ⟨sl, h3⟩ := hup b o' h1 fun vs z => by rw [h2, hd] at z; cases z
      exact ⟨_, h3, h2⟩
    have hseq : ∀ b o vs n, s.heap.get? b = some o → o.data = .seq vs n → s''.heap.get? b = some o := fun b o vs n ho hd => hkp b o ho (not_tb_seq hd) fun q => by
      obtain ⟨_, o9, _, _, h9, h10⟩ := hfs b q
      rw [ho] at h9; injection h9 with h9; subst h9; rw [hd] at h10; cases h10
    have hlow2 : ∀ b o, b < cx.N → s.heap.get? b = some o → ¬ Tb o → s''.heap.get? b = some o := fun b o hb ho hn => hkp b o ho hn fun q => absurd (hfs b q).1 (Nat.not_le.mpr hb)
    have hns2 : ∀ {a m}, a < cx.N → s.heap.Ns a m → s''.heap.Ns a m := fun ha ⟨o, es, ep, h1, h2, h3⟩ => ⟨o, es, ep, hlow2 _ _ ha h1 (not_tb_dict h2), h2, h3⟩
    have F₃ : InFr cx fc ns₀ ρ ads σ s'' := by
      refine ⟨fun a o e => hlow2 _ _ (cx.kb a o e).2 (F.kin a o e) (cx.kb a o e).1, ?_, ⟨w, fg⟩, ?_, F.lN, ⟨F.own.1, F.own.2.1, fun k a ds h1 h2 => ?_⟩, F.frs.mono'' hdict, fun x hx => ?_, F.nsl, F.nsd, F.hk, F.rmd, F.rmu⟩
      · have T := F.top
        obtain ⟨mc, h1, h2⟩ := T.nolimit
        exact ⟨hns2 cx.tg T.g, hns2 cx.tb T.b, ⟨mc, hns2 cx.tc h1, h2⟩, T.builtins, T.free⟩
      · obtain ⟨m, ⟨o, es, ep, h1, h2, h3⟩, h4⟩ := F.env
        obtain ⟨o', h5, h6⟩ := hdict fc.L (.head _) o es ep h1 h2
        refine ⟨m, ⟨o', es, ep, h5, h6.trans h2, h3⟩, fun i x sl hi hr => ?_⟩
        have := h4 i x sl hi hr
        cases sl with
        | undef => trivial
        | val d => obtain ⟨u, h3, h4⟩ := this; exact ⟨u, h3, h4.mono fun b o vs n ho hd hx => ⟨hseq b o vs n ho hd, hx⟩⟩
        | own k => exact this
      · obtain ⟨h3, o, items, n, h4, h5, h5d, h6, h7⟩ := F.own.2.2 k a ds h1 h2
        exact ⟨h3, o, items, n, hseq _ _ _ _ h4 h6, h5, h5d, h6, h7.mono fun b o vs n ho hd hx => ⟨hseq b o vs n ho hd, hx⟩⟩
      · obtain ⟨h1, o, h2⟩ := F.fbs x hx
        obtain ⟨o', h3, _⟩ := hHS x o h2
        exact ⟨h1, o', h3⟩
    refine hX _ _ _ hx F₃ ⟨e, w, rfl, fg, hHS, fun b hb _ => hdict b hb, .inr ⟨B, a0, hfl, hw, fun b o hb hbf => ?_⟩⟩
    have hbn : b ≠ s.heap.objs.size := Nat.ne_of_lt (Heap.lt_size hb)
    obtain ⟨o', h1, h2⟩ := hB b o (hk₀ b o hb) fun q => by
      rw [fsz] at q
      rcases List.mem_cons.mp q with q | q
      · exact hbn q
      · exact hbf q
    exact ⟨o', h1, fun hn _ => h2 hn fun q => hbn (List.mem_singleton.mp q)⟩
theorem call_ok {f : Addr} {rk n : Nat} {args dfl : List PyData} {out : Except Exn PyData} {name qual : Str} {params : Arguments} {body : List Stmt} {scope : Scope} {dV kV doc pm cdv ct oc : Value} {an od : Option Addr} {osl : Array (Option Value)}
    {K₀ : Frag} (xs : List Str) (ns : List Str) (dvs : List Value) (hK₀ : cx.K = K₀)
    (ho : K₀.lookup f = some ⟨oc, od, .func (fnOf name qual params body scope dV kV doc pm an cdv ct), osl⟩) (hcd : codeIn K₀ cdv qual = true)
    (hb : ∀ (us : List Value) (s : Shared), us.length = args.length → cx.K.In s.heap → BindsTo s (fnOf name qual params body scope dV kV doc pm an cdv ct) ⟨us, []⟩ (xs.zip (us ++ dvs)))
    (hdv : ∀ h X, cx.K.In h → (∀ b ∈ X, cx.N ≤ b) → Rds h X dvs dfl)
    (hxl : xs.length = (args ++ dfl).length) (hxn : ∀ (i : Nat) x, xs[i]? = some x → ns[i]? = some x) (hns : ∀ x ∈ ns, scope.names.lookup x = some .local) (hnd : ns.Nodup)
    (hk : scope.kind = .function) (hco : scope.isCoroutine = false) (hgen : scope.isGenerator = false) (hcell : ∀ x ∈ scope.names, x.2 ≠ .cell)
    (hbody : ∀ fc : Fc, fc.cs = scope → fc.rk = rk → SX cx fc ns body tx)
    (hvc : tx (valSlots (args ++ dfl) n) [] (callPost out)) : CallOK cx f rk args out :=
  call_okC xs ns dvs hK₀ ho hcd hb hdv hxl hxn hns hnd hk hco hgen hcell (fun fc h1 h2 _ => hbody fc h1 h2) hvc
end Mine

namespace Mine
open PySem PySem.W PySem.Calls PyProof.Rows PySem.Spec
variable {cx : Cx} {fc : Fc} {ns : List Str} {ρ : List Slot} {ads : List Addr} {σ : List (List PyData)} {s s' : Shared}
variable {e e₁ e₂ l r value slice iter : Expr} {es : List Expr} {t t₁ t₂ tl tr : Tr} {tt tt₁ tt₂ : Tt} {ts : Ts} {p pos apos : Pos} {k : Nat} {kk : PyData → PyData → (PyData → Prop) → Prop}
variable {st : Stmt} {sts body orelse : List Stmt} {tx tx₁ tx₂ : Tx}

theorem len_1 {us : List Value} (h : us.length = 1) : ∃ a, us = [a] := by
  match us, h with | [a], _ => exact ⟨_, rfl⟩
theorem len_2 {us : List Value} (h : us.length = 2) : ∃ a b, us = [a, b] := by
  match us, h with | [a, b], _ => exact ⟨_, _, rfl⟩
theorem len_3 {us : List Value} (h : us.length = 3) : ∃ a b c, us = [a, b, c] := by
  match us, h with | [a, b, c], _ => exact ⟨_, _, _, rfl⟩
theorem len_4 {us : List Value} (h : us.length = 4) : ∃ a b c d, us = [a, b, c, d] := by
  match us, h with | [a, b, c, d], _ => exact ⟨_, _, _, _, rfl⟩
theorem len_5 {us : List Value} (h : us.length = 5) : ∃ a b c d e, us = [a, b, c, d, e] := by
  match us, h with | [a, b, c, d, e], _ => exact ⟨_, _, _, _, _, rfl⟩
theorem len_6 {us : List Value} (h : us.length = 6) : ∃ a b c d e f, us = [a, b, c, d, e, f] := by
  match us, h with | [a, b, c, d, e, f], _ => exact ⟨_, _, _, _, _, _, rfl⟩
theorem len_7 {us : List Value} (h : us.length = 7) : ∃ a b c d e f g, us = [a, b, c, d, e, f, g] := by
  match us, h with | [a, b, c, d, e, f, g], _ => exact ⟨_, _, _, _, _, _, _, rfl⟩
theorem nth_sub {xs ns : List Str} (h : (ns.take xs.length == xs) = true) {i : Nat} {x : Str} (hx : xs[i]? = some x) : ns[i]? = some x := by
  have h1 : ns.take xs.length = xs := by simpa using h
  have h2 : i < xs.length := (List.getElem?_eq_some_iff.mp hx).1
  rw [← h1, List.getElem?_take] at hx
  simpa [h2] using hx

/-- a call by a name of the top -/
theorem SE_callR {x : Str} {f : Addr} {n : Nat} {K₀ : Frag} {fd : FuncData} {oc : Value} {od : Option Addr} {osl : Array (Option Value)} (hx : fc.cs.names.lookup x = some .globalImplicit) (hv : nsIn cx.K mainGlobals x = some (some (.ref f))) (hK : cx.K = K₀)
    (ho : K₀.lookup f = some ⟨oc, od, .func fd, osl⟩) (hn : fc.rk = n)
    (hs : SEs cx fc ns (e :: es) ts) (he : starEach (e :: es) fc.env = (false, eval e fc.env) :: starEach es fc.env := by rfl) (hd : (x == ("__debug__" : Str)) = false := by decide) :
    SE cx fc ns (.Call (.Name x p) (e :: es) [] pos) (tCall cx n f ts) := by
  subst hK; subst hn
  exact SE_call hx hv ho rfl hs he hd

theorem rd_tup {K₀ : Frag} {a : Addr} {n : Nat} {vs : Array Value} {ds : List PyData} {od : Option Addr} {osl : Array (Option Value)} (hK : cx.K = K₀) (ho : K₀.lookup a = some ⟨.type "tuple", od, .seq vs n, osl⟩) (rs : ∀ h X, Rds h X vs.toList ds) :
    ∀ h X, cx.K.In h → (∀ b ∈ X, cx.N ≤ b) → Rd h X (.ref a) (.tuple ds) := fun h X hk hX => by
  subst hK
  exact .tuple (hk _ _ ho) rfl rfl (fun q => absurd (hX _ q) (Nat.not_le.mpr (cx.kb _ _ ho).2)) (rs _ _)

def kInTup : PyData → PyData → (PyData → Prop) → Prop
  | d, .tuple xs, Q => PyData.canLayAll0 xs = true ∧ d.canLay0 = true ∧ PyData.depthAll xs ≤ 50 ∧ Q (.bool (xs.any fun y => PyData.eqv y d))
  | _, _, _ => False
theorem c_in_tup : BinOK cx (compareOp .In) kInTup := by
  intro fc ns ρ ads σ s u v a b Q Q' E' F ra rb hk hQ
  cases b <;> (try exact hk.elim)
  obtain ⟨as, r1⟩ := ra.reads
  obtain ⟨bs, r2⟩ := rb.reads
  obtain ⟨h1, h2, h3, h4⟩ := hk
  exact PySem.SeqAt.in_tuple_reads r2 r1 h1 h2 (by have := F.rmu; have := Nat.min_le_left (PyData.depthAll ‹List PyData›) a.depth; show fc.un + 1 + min _ _ < cLine; omega) (hQ _ _ _ h4 F (HS.refl _ _) (.bool _))

def tSet2 (i j : Nat) (t : Tr) : Tx := fun ρ σ P => t ρ σ (fun d => P.nx ((ρ.set i (.val d)).set j (.val d)) σ) (fun x => P.xx x ρ σ)
theorem SX_set2 {i j : Nat} {x y : Str} {p₂ : Pos} (hx : ns[i]? = some x) (hy : ns[j]? = some y) (h : SE cx fc ns e t)
    (he : (assignEach [.Name x p, .Name y p₂] fc.env).map (·.2) = [assign (.Name x p) fc.env, assign (.Name y p₂) fc.env] := by rfl) (hw : swappedStores [.Name x p, .Name y p₂] e fc.env = pure none := by rfl) :
    SX1 cx fc ns (.Assign [.Name x p, .Name y p₂] e pos) (tSet2 i j t) := fun _ _ _ _ _ _ _ F ht hQ hX => by
  refine wpAny_Assign_two (h.inX F ht (fun u d s' hd F' k' r' => PyProof.Rows.assign_Name (store_val F' hx r' fun s₂ F₂ k₂ => ?_)) hX) he hw
  exact PyProof.Rows.assign_Name (store_val F₂ hy (r'.hs k₂ lx fun _ _ q => q) fun s₃ F₃ k₃ => hQ .next _ ⟨_, _, _, hd, F₃, .refl _ _⟩ ((k'.toHS.trans k₂).trans k₃))

def cutFromQ : PyData → PyData → (PyData → Prop) → Prop
  | .list ds, .int i, Q => 0 ≤ i ∧ i.toNat ≤ ds.length ∧ ds.length ≤ 1000 ∧ Q (.list (ds.drop i.toNat))
  | _, _, _ => False
def cutToQ : PyData → PyData → (PyData → Prop) → Prop
  | .list ds, .int i, Q => 0 ≤ i ∧ ds.length ≤ 1000 ∧ Q (.list (ds.take i.toNat))
  | _, _, _ => False
def tCutFrom (a b : Tr) : Tr := fun ρ σ Q X => a ρ σ (fun d => b ρ σ (fun d' => cutFromQ d d' Q) X) X
def tCutTo (a b : Tr) : Tr := fun ρ σ Q X => a ρ σ (fun d => b ρ σ (fun d' => cutToQ d d' Q) X) X
theorem slicePick_to' (items : Array Value) (b : Nat) : slicePick items none (some (b : Int)) none = (items.toList.take b).toArray := by
  by_cases hb : b ≤ items.size
  · exact slicePick_upto items b hb
  · have e : sliceBounds none (some (b : Int)) none items.size = (((0 : Nat) : Int), (items.size : Int), 1) := by
      simp only [sliceBounds, Option.getD_none]
      have h2 : ¬ ((b : Int) < 0) := by omega
      simp only [h2, if_false, show (1 : Int) > 0 by decide, if_true]
      congr 1
      congr 1; omega
    unfold slicePick
    rw [e]
    simp only [sliceRange_one, pick_run]
    rw [List.take_of_length_le (by simp), List.take_of_length_le (by simp; omega)]
    simp

theorem gps2 (h : Heap) (o o' : Obj) (ho : o'.isFreed = false) : ((h.push o).push o').get? (h.objs.size + 1) = some o' := by
  have := Heap.get?_push_size (h.push o) ho
  rwa [Heap.size_push] at this
theorem SE_cutFrom (hv : SE cx fc ns value t₁) (hi : SE cx fc ns slice t₂) (ht : ∀ o r, letTemporaryGo value o r = pure () := by intro _ _; rfl) : SE cx fc ns (.Subscript value (.Slice (some slice) none none p) pos) (tCutFrom t₁ t₂) :=
  fun _ _ _ _ _ _ _ _ F hw hQ hX => by
  refine wpAny_Subscript_list_slice (hv _ _ _ _ _ _ _ _ F hw (fun u d s₁ h₁ F₁ k₁ r₁ => wpAny_evalPart_some (hi _ _ _ _ _ _ _ _ F₁ h₁ (fun v d' s₂ h₂ F₂ k₂ r₂ => wpAny_evalPart_none ?_) fun x u s' hx F' fl => hX x u s' hx F' (fl.hx k₁))) hX) ht
  cases d <;> (try exact h₂.elim)
  cases d' <;> (try exact h₂.elim)
  rename_i ds i
  obtain ⟨h0, h1, h2, h3⟩ := h₂
  cases r₂ with
  | int _ tk =>
  have r1 := r₁.hx k₂
  cases r1 with
  | @list a o vs n xs ho hc hd hx rs =>
  have hsz : vs.size = ds.length := by rw [← rs.length]; simp
  refine ⟨a, vs, some i, none, rfl, ⟨o, ho, hc, n, hd⟩, by rw [sizeLine_eq]; omega, .int _ _, .none, ?_⟩
  have ei : i = ((i.toNat : Nat) : Int) := by omega
  have hp : slicePick vs (some i) none none = (vs.toList.drop i.toNat).toArray := by
    rw [ei]; exact slicePick_from vs i.toNat (by omega)
  rw [hp]
  have F₃ := F₂.push { cls := .type "slice", data := .fields #[.int i tk, .none, .none] }
  have F₄ := F₃.push { cls := .type "list", data := .seq (vs.toList.drop i.toNat).toArray }
  have kk : HX s₂.heap ((s₂.heap.push { cls := .type "slice", data := .fields #[.int i tk, .none, .none] }).push { cls := .type "list", data := .seq (vs.toList.drop i.toNat).toArray }) :=
    HX.of_keep fun _ _ e => Heap.get?_push_of_some _ (Heap.get?_push_of_some _ e)
  refine hQ _ _ _ h3 F₄ ((k₁.trans k₂).trans kk) (.list (gps2 _ _ _ rfl) rfl rfl (fun q => ?_) ((rs.drop i.toNat).hx kk))
  have := F₃.newX; simp only [Heap.size_push] at this; exact this q
theorem SE_cutTo (hv : SE cx fc ns value t₁) (hi : SE cx fc ns slice t₂) (ht : ∀ o r, letTemporaryGo value o r = pure () := by intro _ _; rfl) : SE cx fc ns (.Subscript value (.Slice none (some slice) none p) pos) (tCutTo t₁ t₂) :=
  fun _ _ _ _ _ _ _ _ F hw hQ hX => by
  refine wpAny_Subscript_list_slice (hv _ _ _ _ _ _ _ _ F hw (fun u d s₁ h₁ F₁ k₁ r₁ => wpAny_evalPart_none (wpAny_evalPart_some (hi _ _ _ _ _ _ _ _ F₁ h₁ (fun v d' s₂ h₂ F₂ k₂ r₂ => ?_) fun x u s' hx F' fl => hX x u s' hx F' (fl.hx k₁)))) hX) ht
  cases d <;> (try exact h₂.elim)
  cases d' <;> (try exact h₂.elim)
  rename_i ds i
  obtain ⟨h0, h2, h3⟩ := h₂
  cases r₂ with
  | int _ tk =>
  have r1 := r₁.hx k₂
  cases r1 with
  | @list a o vs n xs ho hc hd hx rs =>
  have hsz : vs.size = ds.length := by rw [← rs.length]; simp
  refine ⟨a, vs, none, some i, rfl, ⟨o, ho, hc, n, hd⟩, by rw [sizeLine_eq]; omega, .none, .int _ _, ?_⟩
  have ei : i = ((i.toNat : Nat) : Int) := by omega
  have hp : slicePick vs none (some i) none = (vs.toList.take i.toNat).toArray := by
    rw [ei]; exact slicePick_to' vs i.toNat
  rw [hp]
  have F₃ := F₂.push { cls := .type "slice", data := .fields #[.none, .int i tk, .none] }
  have F₄ := F₃.push { cls := .type "list", data := .seq (vs.toList.take i.toNat).toArray }
  have kk : HX s₂.heap ((s₂.heap.push { cls := .type "slice", data := .fields #[.none, .int i tk, .none] }).push { cls := .type "list", data := .seq (vs.toList.take i.toNat).toArray }) :=
    HX.of_keep fun _ _ e => Heap.get?_push_of_some _ (Heap.get?_push_of_some _ e)
  refine hQ _ _ _ h3 F₄ ((k₁.trans k₂).trans kk) (.list (gps2 _ _ _ rfl) rfl rfl (fun q => ?_) ((rs.take i.toNat).hx kk))
  have := F₃.newX; simp only [Heap.size_push] at this; exact this q

theorem SX_swap {elts : List Expr} {k : Nat} {tpos : Pos} {xs : List Str} {is : List Nat} {cs : Scope} (hcs : fc.cs = cs) (h : SE cx fc ns e t) (hxs : is.map (fun i => ns[i]?) = xs.map some)
    (hs : swapsWithSole [.Tuple elts k tpos] e pos.line fc.env = pure false) (hw : swappedStores [.Tuple elts k tpos] e (envOf fc.cn cs fc.L fc.a fc.cd) = pure (some xs)) :
    SX1 cx fc ns (.Assign [.Tuple elts k tpos] e pos) (tUnpackR is t) := by subst hcs; exact SX_unpackR h hxs hs hw

/-! raising -/
def tRaise (x : Exn) : Tx := fun ρ σ P => P.xx x ρ σ
theorem flies_new {x : Exn} {h' : Heap} {e : Addr} {oe : Obj} {t : Value} (F : InFr cx fc ns ρ ads σ s) (hk : ∀ b o, s.heap.get? b = some o → h'.get? b = some o) (hn : s.heap.get? e = none)
    (h1 : h'.get? e = some oe) (h2 : oe.cls = x.cls cx) (h3 : oe.data = .fields #[t, .none, .none, .none, .bool false, .none]) :
    InFr cx fc ns ρ ads σ { s with heap := h' } ∧ Flies cx fc x (.ref e) s.heap (fc.L :: ads) { s with heap := h' } := by
  obtain ⟨w, g⟩ := F.gi
  refine ⟨F.keep hk rfl rfl, e, w, rfl, cx.stable _ _ _ g rfl rfl fun b o hb _ => hk b o hb, HX.of_keep hk, fun b hb hs o es n ho hd => ⟨o, hk _ _ ho, rfl⟩, .inl ⟨oe, t, h1, h2, h3, hn, fun q => ?_⟩⟩
  obtain ⟨o, ho⟩ := cx.ihas _ _ _ g q
  rw [hn] at ho; cases ho
theorem SX_zde {np : Pos} (hx : fc.cs.names.lookup (Str.ofString "ZeroDivisionError") = some .globalImplicit) (hno : nsIn cx.K mainGlobals (Str.ofString "ZeroDivisionError") = some none) :
    SX1 cx fc ns (.Raise (some (.Name (Str.ofString "ZeroDivisionError") np)) none pos) (tRaise .zde) := fun _ _ _ s _ _ _ F ht hQ hX => by
  refine Raise_classB rfl excClass_ZeroDivisionError (by rw [isSubtype_type]; kernel_rfl) (name_boot F hx hno excClass_ZeroDivisionError.boot (by decide) (by decide) ⟨rfl, rfl⟩) fun h' e ⟨hk, hn, ob, t, h1, h2, h3⟩ => ?_
  obtain ⟨F', fl⟩ := flies_new (x := .zde) F hk hn h1 h2 h3
  exact hX _ _ _ _ _ _ ht F' (.refl _ _) fl
theorem SX_cplx {np cpos : Pos} {str : Str} {kd : Nat} {sp : Pos} (hx : fc.cs.names.lookup (Str.ofString "ComplexResult") = some .globalImplicit) (hv : nsIn cx.K mainGlobals (Str.ofString "ComplexResult") = some (some (.ref 52)))
    (hq : excIn cx.K 52 [.type "ValueError", .type "Exception", .type "BaseException", .type "object"] "ValueError.__new__" = true)
    (he : ∀ env : Env, starEach [Expr.Constant (.str str) kd sp] env = (false, eval (Expr.Constant (.str str) kd sp) env) :: starEach [] env := by intro _; rfl)
    (hplain : (backTo cpos (starEach [] fc.env)).any (·.1) = false := by rfl) :
    SX1 cx fc ns (.Raise (some (.Call (.Name (Str.ofString "ComplexResult") np) [.Constant (.str str) kd sp] [] cpos)) none pos) (tRaise .cplx) := fun _ _ _ s _ _ _ F ht hQ hX => by
  have O : OwnCls (Str.ofString "ComplexResult") 52 _ _ cx.mg s.heap := own_of_in F.kin F.top hv hq
  obtain ⟨tl, N, nm, q, bs, hdct, sn, sub, ab, col, dd, k0, k1, k2, k3, k5, mN, hC, hN, hni, T⟩ := O.obj
  refine wpAny_Raise_call_subT (C := 52) (nm := nm) (q := q) (N := N) (bs := bs) (bm := tl) (hdct := hdct) (sn := sn) (sub := sub) (ab := ab) (col := col) (dd := dd) (k0 := k0) (k1 := k1) (k2 := k2) (k3 := k3) (k5 := k5)
    PySem.F.excBase_ValueError (mN := mN) (T.hasType PySem.F.excBase_ValueError.hasBase) rfl (by rw [he]; show (false || (backTo cpos (starEach [] fc.env)).any (·.1)) = false; rw [hplain]; rfl) hni
      (Name_function_global (env := fc.env) F.hk hx (loadGlobal_global (env := fc.env) F.top.g (mg_of F.kin F.top.g hv) ⟨rfl, ?_⟩) (by decide))
  rw [he]
  refine Calls.evalArgs_plain ?_
  refine args_cons (wpAny_Constant_str ?_) (he fc.env)
  refine args_nil ⟨rfl, by rw [sizeLine_eq]; simp, hC, hN, T, fun h' e ⟨hk, hn, t, h1, _, _⟩ => ?_⟩
  obtain ⟨F', fl⟩ := flies_new (x := .cplx) (F.toks (s.toks + 1)) hk hn h1 rfl rfl
  exact hX _ _ _ _ _ _ ht F' (.refl _ _) fl
end Mine

namespace Mine
open PySem

/-! rounding of a positive fraction, by cell and class -/
def cls (r D : Nat) : Nat := if r = 0 then 0 else if 2 * r < D then 1 else if 2 * r = D then 2 else 3
theorem cls_mul {k : Nat} (hk : 0 < k) (r D : Nat) : cls (r * k) (D * k) = cls r D := by
  unfold cls
  have h1 : (r * k = 0) = (r = 0) := propext ⟨fun h => by rcases Nat.mul_eq_zero.mp h with h | h <;> omega, fun h => by rw [h, Nat.zero_mul]⟩
  have h2 : (2 * (r * k) < D * k) = (2 * r < D) := by rw [← Nat.mul_assoc]; exact propext (Nat.mul_lt_mul_right hk)
  have h3 : (2 * (r * k) = D * k) = (2 * r = D) := by rw [← Nat.mul_assoc]; exact propext ⟨fun h => Nat.eq_of_mul_eq_mul_right hk h, fun h => by rw [h]⟩
  simp only [h1, h2, h3]

def Rq (a d : Nat) (j : Int) (q c : Nat) : Prop := ∃ u v r : Nat, (v : Int) - u = j ∧ a * 2 ^ u = d * 2 ^ v * q + r ∧ r < d * 2 ^ v ∧ c = cls r (d * 2 ^ v)

theorem two_pos (n : Nat) : 0 < 2 ^ n := Nat.pow_pos (by decide)

theorem lift_w {a d u v q r c : Nat} (i : Nat) (h1 : a * 2 ^ u = d * 2 ^ v * q + r) (h2 : r < d * 2 ^ v) (h3 : c = cls r (d * 2 ^ v)) :
    a * 2 ^ (u + i) = d * 2 ^ (v + i) * q + r * 2 ^ i ∧ r * 2 ^ i < d * 2 ^ (v + i) ∧ c = cls (r * 2 ^ i) (d * 2 ^ (v + i)) := by
  have e : d * 2 ^ (v + i) = d * 2 ^ v * 2 ^ i := by rw [Nat.pow_add, Nat.mul_assoc]
  refine ⟨?_, ?_, ?_⟩
  · rw [Nat.pow_add, ← Nat.mul_assoc, h1, e]; grind
  · rw [e]; exact Nat.mul_lt_mul_of_pos_right h2 (two_pos i)
  · rw [e, cls_mul (two_pos i)]; exact h3

theorem div_unique {D q r q' r' : Nat} (h : D * q + r = D * q' + r') (hr : r < D) (hr' : r' < D) : q = q' ∧ r = r' := by
  have hD : 0 < D := Nat.lt_of_le_of_lt (Nat.zero_le _) hr
  have h1 : (D * q + r) / D = q := by rw [Nat.mul_add_div hD, Nat.div_eq_of_lt hr, Nat.add_zero]
  have h2 : (D * q' + r') / D = q' := by rw [Nat.mul_add_div hD, Nat.div_eq_of_lt hr', Nat.add_zero]
  have h3 : q = q' := by rw [← h1, h, h2]
  subst h3
  exact ⟨rfl, by omega⟩

theorem Rq_unique {a d : Nat} {j : Int} {q c q' c' : Nat} (x : Rq a d j q c) (y : Rq a d j q' c') : q = q' ∧ c = c' := by
  obtain ⟨u, v, r, hj, h1, h2, h3⟩ := x
  obtain ⟨u', v', r', hj', h1', h2', h3'⟩ := y
  obtain ⟨a1, a2, a3⟩ := lift_w u' h1 h2 h3
  obtain ⟨b1, b2, b3⟩ := lift_w u h1' h2' h3'
  have e : v' + u = v + u' := by omega
  rw [e, Nat.add_comm u' u, a1] at b1
  rw [e] at b2 b3
  obtain ⟨e1, e2⟩ := div_unique b1 a2 b2
  exact ⟨e1, by rw [a3, b3, e2]⟩

theorem Rq_congr {a d a' d' i i' : Nat} {j : Int} {q c : Nat} (hd : 0 < d) (hd' : 0 < d') (h : a * 2 ^ i * d' = a' * 2 ^ i' * d) (x : Rq a d j q c) : Rq a' d' (j + i - i') q c := by
  obtain ⟨u, v, r, hj, h1, h2, h3⟩ := x
  have key : d * (a' * 2 ^ (u + i')) = d * (d' * 2 ^ (v + i) * q) + r * (2 ^ i * d') := by
    rw [Nat.pow_add, Nat.pow_add]
    have : d * (a' * (2 ^ u * 2 ^ i')) = (a' * 2 ^ i' * d) * 2 ^ u := by grind
    rw [this, ← h]
    have : a * 2 ^ i * d' * 2 ^ u = (a * 2 ^ u) * (2 ^ i * d') := by grind
    rw [this, h1]; grind
  have hle : d' * 2 ^ (v + i) * q ≤ a' * 2 ^ (u + i') := Nat.le_of_mul_le_mul_left (by omega) hd
  obtain ⟨r', hr'⟩ := Nat.exists_eq_add_of_le hle
  have e1 : d * r' = r * (2 ^ i * d') := by rw [hr', Nat.mul_add] at key; omega
  have hpos : 0 < 2 ^ i * d' := Nat.mul_pos (two_pos i) hd'
  have e2 : d * (d' * 2 ^ (v + i)) = d * 2 ^ v * (2 ^ i * d') := by rw [Nat.pow_add]; grind
  refine ⟨u + i', v + i, r', by omega, hr', ?_, ?_⟩
  · refine Nat.lt_of_mul_lt_mul_left (a := d) ?_
    rw [e1, e2]; exact Nat.mul_lt_mul_of_pos_right h2 hpos
  · rw [h3, ← cls_mul hpos, ← e1, ← e2, Nat.mul_comm d r', Nat.mul_comm d (d' * 2 ^ (v + i)), cls_mul hd]

theorem Rq_split {a d u v Q r : Nat} (h : a * 2 ^ u = d * 2 ^ v * Q + r) (hr : r < d * 2 ^ v) (x : Nat) :
    Rq a d ((v : Int) - u + x) (Q / 2 ^ x) (cls (Q % 2 ^ x * (d * 2 ^ v) + r) (d * 2 ^ v * 2 ^ x)) := by
  have e := Nat.div_add_mod Q (2 ^ x)
  have hm := Nat.mod_lt Q (two_pos x)
  have e3 : d * 2 ^ (v + x) = d * 2 ^ v * 2 ^ x := by rw [Nat.pow_add, Nat.mul_assoc]
  generalize Q / 2 ^ x = q at *
  generalize Q % 2 ^ x = l at *
  generalize hD : d * 2 ^ v = D at *
  refine ⟨u, v + x, l * D + r, by omega, ?_, ?_, ?_⟩
  · rw [e3, h, ← e]; grind
  · rw [e3]
    have := Nat.mul_le_mul_right D (show l + 1 ≤ 2 ^ x from hm)
    rw [Nat.mul_comm D (2 ^ x)]
    rw [Nat.add_mul] at this
    omega
  · rw [e3]

theorem cls_split {l D r x : Nat} (hr : r < D) :
    cls (l * D + r) (D * 2 ^ (x + 1)) = if l = 0 ∧ r = 0 then 0 else if l < 2 ^ x then 1 else if l = 2 ^ x ∧ r = 0 then 2 else 3 := by
  have hD : 0 < D := Nat.lt_of_le_of_lt (Nat.zero_le _) hr
  unfold cls
  have e : D * 2 ^ (x + 1) = 2 * (D * 2 ^ x) := by rw [Nat.pow_succ]; grind
  rw [e]
  generalize 2 ^ x = H at *
  have c1 : (l * D + r = 0) = (l = 0 ∧ r = 0) := by
    refine propext ⟨fun h => ?_, fun h => by rw [h.1, h.2]; simp⟩
    have : l * D = 0 := by omega
    rcases Nat.mul_eq_zero.mp this with h | h <;> omega
  have c2 : (2 * (l * D + r) < 2 * (D * H)) = (l < H) := by
    refine propext ⟨fun h => ?_, fun h => ?_⟩
    · have h1 : l * D < H * D := by rw [Nat.mul_comm H D]; omega
      exact Nat.lt_of_mul_lt_mul_right h1
    · have := Nat.mul_le_mul_right D (show l + 1 ≤ H from h)
      rw [Nat.add_mul, Nat.mul_comm H D] at this; omega
  have c3 : (2 * (l * D + r) = 2 * (D * H)) = (l = H ∧ r = 0) := by
    refine propext ⟨fun h => ?_, fun h => by rw [h.1, h.2, Nat.mul_comm H D]; simp⟩
    have h1 : D * l + r = D * H + 0 := by rw [Nat.mul_comm D l]; omega
    exact div_unique h1 hr hD
  simp only [c1, c2, c3]

inductive Way where
  | n | f | c | u | d

def up : Way → Bool → Nat → Nat → Bool
  | .n, _, q, c => decide (c = 3 ∨ (c = 2 ∧ q % 2 = 1))
  | .f, neg, _, c => decide (c ≠ 0) && neg
  | .c, neg, _, c => decide (c ≠ 0) && !neg
  | .u, _, _, c => decide (c ≠ 0)
  | .d, _, _, _ => false

def RD (w : Way) (neg : Bool) (bits a d : Nat) (p : Int) (m : Nat) (e : Int) : Prop :=
  ∃ (j : Int) (q c k : Nat), Rq a d j q c ∧ 2 ^ bits ≤ 2 * q ∧ q < 2 ^ bits ∧ m % 2 = 1 ∧ q + (up w neg q c).toNat = m * 2 ^ k ∧ e = p + j + k

theorem odd_unique : ∀ {k k' m m' : Nat}, m % 2 = 1 → m' % 2 = 1 → m * 2 ^ k = m' * 2 ^ k' → m = m' ∧ k = k'
  | 0, 0, m, m', _, _, h => ⟨by simpa using h, rfl⟩
  | 0, k' + 1, m, m', h1, h2, h => by rw [Nat.pow_succ] at h; exfalso; have : m = 2 * (m' * 2 ^ k') := by grind
                                      omega
  | k + 1, 0, m, m', h1, h2, h => by rw [Nat.pow_succ] at h; exfalso; have : m' = 2 * (m * 2 ^ k) := by grind
                                     omega
  | k + 1, k' + 1, m, m', h1, h2, h => by
    rw [Nat.pow_succ, Nat.pow_succ] at h
    obtain ⟨e1, e2⟩ := odd_unique (k := k) (k' := k') h1 h2 (by grind)
    exact ⟨e1, by omega⟩

theorem odd_part : ∀ n : Nat, 0 < n → ∃ m k, m % 2 = 1 ∧ n = m * 2 ^ k := by
  intro n
  induction n using Nat.strongRecOn with
  | _ n ih =>
    intro hn
    by_cases h : n % 2 = 1
    · exact ⟨n, 0, h, by simp⟩
    · obtain ⟨m, k, h1, h2⟩ := ih (n / 2) (by omega) (by omega)
      refine ⟨m, k + 1, h1, ?_⟩
      rw [Nat.pow_succ]
      have : n = 2 * (n / 2) := by omega
      rw [this]
      generalize n / 2 = y at *
      subst h2; grind

theorem scale_le {a d bits : Nat} {j j' : Int} {q c q' c' : Nat} (hd : 0 < d) (x : Rq a d j q c) (y : Rq a d j' q' c') (hq : q < 2 ^ bits) (hq' : 2 ^ bits ≤ 2 * q') : ¬ j < j' := by
  intro hlt
  obtain ⟨u, v, r, hj, h1, h2, _⟩ := x
  obtain ⟨u', v', r', hj', h1', h2', _⟩ := y
  have hle : v + u' + 1 ≤ v' + u := by omega
  have s1 : a * 2 ^ u < d * 2 ^ v * 2 ^ bits := by
    have := Nat.mul_le_mul_left (d * 2 ^ v) (show q + 1 ≤ 2 ^ bits from hq)
    rw [Nat.mul_add] at this; omega
  have s2 : d * 2 ^ v' * 2 ^ bits ≤ 2 * (a * 2 ^ u') := by
    have := Nat.mul_le_mul_left (d * 2 ^ v') hq'
    have e : d * 2 ^ v' * (2 * q') = 2 * (d * 2 ^ v' * q') := by grind
    omega
  have s3 : a * 2 ^ u * 2 ^ u' < d * 2 ^ v * 2 ^ bits * 2 ^ u' := Nat.mul_lt_mul_of_pos_right s1 (two_pos _)
  have s4 : d * 2 ^ v' * 2 ^ bits * 2 ^ u ≤ 2 * (a * 2 ^ u') * 2 ^ u := Nat.mul_le_mul_right _ s2
  have s5 : 2 ^ (v + u' + 1) ≤ 2 ^ (v' + u) := Nat.pow_le_pow_right (by decide) hle
  have s6 := Nat.mul_le_mul_left (d * 2 ^ bits) s5
  rw [Nat.pow_add, Nat.pow_add, Nat.pow_add] at s6
  have e1 : d * 2 ^ bits * (2 ^ v * 2 ^ u' * 2 ^ 1) = 2 * (d * 2 ^ v * 2 ^ bits * 2 ^ u') := by grind
  have e2 : d * 2 ^ bits * (2 ^ v' * 2 ^ u) = d * 2 ^ v' * 2 ^ bits * 2 ^ u := by grind
  have e3 : 2 * (a * 2 ^ u') * 2 ^ u = 2 * (a * 2 ^ u * 2 ^ u') := by grind
  omega

theorem RD_unique {w neg bits a d p m e m' e'} (hd : 0 < d) (x : RD w neg bits a d p m e) (y : RD w neg bits a d p m' e') : m = m' ∧ e = e' := by
  obtain ⟨j, q, c, k, h1, h2, h3, h4, h5, h6⟩ := x
  obtain ⟨j', q', c', k', h1', h2', h3', h4', h5', h6'⟩ := y
  have hj : j = j' := by
    have := scale_le hd h1 h1' h3 h2'
    have := scale_le hd h1' h1 h3' h2
    omega
  subst hj
  obtain ⟨rfl, rfl⟩ := Rq_unique h1 h1'
  obtain ⟨rfl, rfl⟩ := odd_unique h4 h4' (h5.symm.trans h5')
  exact ⟨rfl, h6.trans h6'.symm⟩

theorem RD_congr {w neg bits m e} {p p' : Int} {a d a' d' i i' : Nat} (hd : 0 < d) (hd' : 0 < d') (h : a * 2 ^ i * d' = a' * 2 ^ i' * d) (hp : p + i' = p' + i) (x : RD w neg bits a d p m e) : RD w neg bits a' d' p' m e := by
  obtain ⟨j, q, c, k, h1, h2, h3, h4, h5, h6⟩ := x
  exact ⟨_, q, c, k, Rq_congr hd hd' h h1, h2, h3, h4, h5, by omega⟩

theorem RD_make {w neg bits p} {a d u v Q r x : Nat} (h : a * 2 ^ u = d * 2 ^ v * Q + r) (hr : r < d * 2 ^ v) (hb : 1 ≤ bits) (hQ : 2 ^ (bits + x) ≤ 2 * Q) (hQ' : Q < 2 ^ (bits + x)) {m k : Nat} (hm : m % 2 = 1)
    (hk : Q / 2 ^ x + (up w neg (Q / 2 ^ x) (cls (Q % 2 ^ x * (d * 2 ^ v) + r) (d * 2 ^ v * 2 ^ x))).toNat = m * 2 ^ k) : RD w neg bits a d p m (p + ((v : Int) - u + x) + k) := by
  rw [Nat.pow_add] at hQ hQ'
  refine ⟨_, _, _, k, Rq_split h hr x, ?_, ?_, hm, hk, rfl⟩
  · obtain ⟨b, rfl⟩ : ∃ b, bits = b + 1 := ⟨bits - 1, by omega⟩
    rw [Nat.pow_succ] at hQ ⊢
    have h3 : 2 ^ b ≤ Q / 2 ^ x := (Nat.le_div_iff_mul_le (two_pos x)).mpr (by
      have e : 2 ^ b * 2 * 2 ^ x = 2 * (2 ^ b * 2 ^ x) := by grind
      omega)
    omega
  · exact (Nat.div_lt_iff_lt_mul (two_pos x)).mpr hQ'

theorem RD_exists {w neg bits p} {a d : Nat} (hb : 1 ≤ bits) (ha : 0 < a) (hd : 0 < d) : ∃ m e, RD w neg bits a d p m e := by
  -- enough bits ahead
  have hpos : 0 < (a * 2 ^ (d + bits)) / d := Nat.div_pos (by
    have h1 : d < 2 ^ d := Nat.lt_two_pow_self
    have h2 : 2 ^ d ≤ 2 ^ (d + bits) := Nat.pow_le_pow_right (by decide) (by omega)
    have h3 : 1 * 2 ^ (d + bits) ≤ a * 2 ^ (d + bits) := Nat.mul_le_mul_right _ ha
    omega) hd
  have hbig : 2 ^ bits ≤ (a * 2 ^ (d + bits)) / d := (Nat.le_div_iff_mul_le hd).mpr (by
    have h1 : d < 2 ^ d := Nat.lt_two_pow_self
    have h3 : 1 * 2 ^ (d + bits) ≤ a * 2 ^ (d + bits) := Nat.mul_le_mul_right _ ha
    have h4 := Nat.mul_le_mul_left (2 ^ bits) (Nat.le_of_lt h1)
    rw [Nat.pow_add] at h3 ⊢
    have : 2 ^ bits * 2 ^ d = 2 ^ d * 2 ^ bits := Nat.mul_comm _ _
    omega)
  have hdm := Nat.div_add_mod (a * 2 ^ (d + bits)) d
  have hml := Nat.mod_lt (a * 2 ^ (d + bits)) hd
  generalize (a * 2 ^ (d + bits)) / d = Q at *
  generalize (a * 2 ^ (d + bits)) % d = r at *
  have hl1 := Nat.log2_self_le (show Q ≠ 0 by omega)
  have hl2 := @Nat.lt_log2_self Q
  have hlb : bits ≤ Q.log2 := (Nat.le_log2 (by omega)).mpr hbig
  obtain ⟨x, hx⟩ : ∃ x, Q.log2 + 1 = bits + x := ⟨Q.log2 + 1 - bits, by omega⟩
  have h0 : a * 2 ^ (d + bits) = d * 2 ^ 0 * Q + r := by rw [Nat.pow_zero, Nat.mul_one, hdm]
  have h1 : r < d * 2 ^ 0 := by rw [Nat.pow_zero, Nat.mul_one]; exact hml
  have hq1 : 2 ^ (bits + x) ≤ 2 * Q := by rw [← hx, Nat.pow_succ]; omega
  have hqp : 0 < Q / 2 ^ x + (up w neg (Q / 2 ^ x) (cls (Q % 2 ^ x * (d * 2 ^ 0) + r) (d * 2 ^ 0 * 2 ^ x))).toNat := by
    have : 0 < Q / 2 ^ x := Nat.div_pos (by
      obtain ⟨b, rfl⟩ : ∃ b, bits = b + 1 := ⟨bits - 1, by omega⟩
      have h5 : 2 ^ x ≤ 2 ^ (b + x) := Nat.pow_le_pow_right (by decide) (by omega)
      have h6 : 2 ^ (b + 1 + x) = 2 * 2 ^ (b + x) := by rw [show b + 1 + x = (b + x) + 1 by omega, Nat.pow_succ]; omega
      omega) (two_pos x)
    omega
  obtain ⟨m, k, hm, hk⟩ := odd_part _ hqp
  exact ⟨m, _, RD_make h0 h1 hb hq1 (by rw [← hx]; exact hl2) hm hk⟩

/-- strictly between two whole numbers: one odd half stands for all -/
theorem RD_sticky {w neg bits p m e} {a d N : Nat} (h1 : N * d < a) (h2 : a < (N + 1) * d) (hN : 2 ^ bits ≤ N) (x : RD w neg bits (2 * N + 1) 1 (p - 1) m e) : RD w neg bits a d p m e := by
  obtain ⟨j, q, c, k, ⟨u, v, r, hj, g1, g2, g3⟩, hq1, hq2, hm, hk, he⟩ := x
  -- the scale is at least two
  have hj2 : 2 ≤ j := by
    refine Int.not_lt.mp fun hlt => ?_
    have hv : v ≤ u + 1 := by omega
    have s1 : 1 * 2 ^ v * (q + 1) ≤ 1 * 2 ^ v * 2 ^ bits := Nat.mul_le_mul_left _ hq2
    have s2 : 2 ^ v ≤ 2 ^ (u + 1) := Nat.pow_le_pow_right (by decide) hv
    have s3 : 2 ^ v * 2 ^ bits ≤ 2 ^ (u + 1) * 2 ^ bits := Nat.mul_le_mul_right _ s2
    have s4 : (2 * 2 ^ bits) * 2 ^ u ≤ (2 * N) * 2 ^ u := Nat.mul_le_mul_right _ (by omega)
    rw [Nat.pow_succ] at s3
    have e1 : 2 ^ u * 2 * 2 ^ bits = 2 * 2 ^ bits * 2 ^ u := by grind
    have e2 : (2 * N + 1) * 2 ^ u = 2 * N * 2 ^ u + 2 ^ u := by grind
    have e3 : 1 * 2 ^ v * (q + 1) = 1 * 2 ^ v * q + 2 ^ v := by grind
    have := two_pos u
    rw [Nat.one_mul] at *
    omega
  -- no shift on the left
  obtain ⟨v', hv'⟩ : ∃ v' : Nat, j = v' + 2 := ⟨(j - 2).toNat, by omega⟩
  have hvv : v = u + (v' + 2) := by omega
  have hr0 : ∃ r0, r = r0 * 2 ^ u ∧ 2 * N + 1 = 2 ^ (v' + 2) * q + r0 := by
    have hle : 2 ^ (v' + 2) * q ≤ 2 * N + 1 := by
      refine Nat.le_of_mul_le_mul_right ?_ (two_pos u)
      have e : 1 * 2 ^ v * q = 2 ^ (v' + 2) * q * 2 ^ u := by rw [hvv, Nat.pow_add]; grind
      omega
    obtain ⟨r0, h0⟩ := Nat.exists_eq_add_of_le hle
    refine ⟨r0, ?_, h0⟩
    have e : 1 * 2 ^ v * q = 2 ^ (v' + 2) * q * 2 ^ u := by rw [hvv, Nat.pow_add]; grind
    rw [h0, Nat.add_mul] at g1
    omega
  obtain ⟨r0, rfl, h0⟩ := hr0
  have hcl : c = cls r0 (2 ^ (v' + 2)) := by
    rw [g3, show 1 * 2 ^ v = 2 ^ (v' + 2) * 2 ^ u by rw [hvv, Nat.pow_add]; grind, cls_mul (two_pos u)]
  have hr0lt : r0 < 2 ^ (v' + 2) := by
    have e : 1 * 2 ^ v = 2 ^ (v' + 2) * 2 ^ u := by rw [hvv, Nat.pow_add]; grind
    rw [e] at g2
    exact Nat.lt_of_mul_lt_mul_right g2
  have hp2 : 2 ^ (v' + 2) = 4 * 2 ^ v' := by rw [Nat.pow_add]; omega
  have hp1 : 2 ^ (v' + 1) = 2 * 2 ^ v' := by rw [Nat.pow_succ]; omega
  have hodd : r0 % 2 = 1 := by
    rw [hp2] at h0
    have e : 4 * 2 ^ v' * q = 2 * (2 * 2 ^ v' * q) := by grind
    omega
  obtain ⟨t, ht⟩ : ∃ t, r0 = 2 * t + 1 := ⟨r0 / 2, by omega⟩
  subst ht
  have hNt : N = 2 ^ (v' + 1) * q + t := by
    rw [hp2] at h0
    have e : 4 * 2 ^ v' * q = 2 * (2 * 2 ^ v' * q) := by grind
    rw [hp1]; omega
  -- the remainder against d
  obtain ⟨R, hR⟩ := Nat.exists_eq_add_of_le (Nat.le_of_lt h1)
  have hR0 : 0 < R := by omega
  have hRd : R < d := by rw [Nat.add_mul] at h2; omega
  have hd : 0 < d := by omega
  have ht1 : t + 1 ≤ 2 ^ (v' + 1) := by omega
  have hrd : t * d + R < d * 2 ^ (v' + 1) := by
    have := Nat.mul_le_mul_right d ht1
    rw [Nat.add_mul, Nat.mul_comm (2 ^ (v' + 1)) d] at this; omega
  refine ⟨j - 1, q, c, k, ⟨0, v' + 1, t * d + R, by omega, ?_, hrd, ?_⟩, hq1, hq2, hm, hk, by omega⟩
  · rw [Nat.pow_zero, Nat.mul_one, hR, hNt]; grind
  · rw [hcl]
    by_cases hc : 2 * (2 * t + 1) < 2 ^ (v' + 2)
    · have h5 : 2 * (t + 1) ≤ 2 ^ (v' + 1) := by omega
      have := Nat.mul_le_mul_right d h5
      rw [Nat.mul_comm (2 ^ (v' + 1)) d] at this
      have e : 2 * (t + 1) * d = 2 * (t * d) + 2 * d := by grind
      have l1 : cls (2 * t + 1) (2 ^ (v' + 2)) = 1 := by unfold cls; rw [if_neg (by omega), if_pos hc]
      have l2 : cls (t * d + R) (d * 2 ^ (v' + 1)) = 1 := by unfold cls; rw [if_neg (by omega), if_pos (by omega)]
      rw [l1, l2]
    · have h5 : 2 ^ (v' + 1) ≤ 2 * t := by omega
      have := Nat.mul_le_mul_right d h5
      rw [Nat.mul_comm (2 ^ (v' + 1)) d] at this
      have e : 2 * t * d = 2 * (t * d) := by grind
      have l1 : cls (2 * t + 1) (2 ^ (v' + 2)) = 3 := by unfold cls; rw [if_neg (by omega), if_neg hc, if_neg (by omega)]
      have l2 : cls (t * d + R) (d * 2 ^ (v' + 1)) = 3 := by unfold cls; rw [if_neg (by omega), if_neg (by omega), if_neg (by omega)]
      rw [l1, l2]

/-! with signs -/
def Rn (w : Way) (bits : Nat) (n : Int) (d : Nat) (p : Int) (m e : Int) : Prop :=
  (n = 0 ∧ m = 0 ∧ e = 0) ∨ (n ≠ 0 ∧ (n < 0 ↔ m < 0) ∧ RD w (decide (n < 0)) bits n.natAbs d p m.natAbs e)
theorem Rn_unique {w bits n d p m e m' e'} (hd : 0 < d) (x : Rn w bits n d p m e) (y : Rn w bits n d p m' e') : m = m' ∧ e = e' := by
  rcases x with ⟨h1, h2, h3⟩ | ⟨h1, h2, h3⟩ <;> rcases y with ⟨g1, g2, g3⟩ | ⟨g1, g2, g3⟩
  · exact ⟨h2.trans g2.symm, h3.trans g3.symm⟩
  · exact absurd h1 g1
  · exact absurd g1 h1
  · obtain ⟨e1, e2⟩ := RD_unique hd h3 g3
    exact ⟨by omega, e2⟩
theorem Rn_exists {w bits n d p} (hb : 1 ≤ bits) (hd : 0 < d) : ∃ x : Int × Int, Rn w bits n d p x.1 x.2 := by
  by_cases h : n = 0
  · exact ⟨(0, 0), .inl ⟨h, rfl, rfl⟩⟩
  · obtain ⟨m, e, r⟩ := RD_exists (w := w) (neg := decide (n < 0)) (p := p) hb (a := n.natAbs) (by omega) hd
    have hm : 0 < m := by obtain ⟨_, _, _, _, _, _, _, h4, _⟩ := r; omega
    by_cases hn : n < 0
    · exact ⟨(-(m : Int), e), .inr ⟨h, by simp only; omega, by simpa using r⟩⟩
    · exact ⟨((m : Int), e), .inr ⟨h, by simp only; omega, by simpa using r⟩⟩
noncomputable def R (w : Way) (bits : Nat) (n : Int) (d : Nat) (p : Int) : Int × Int := Classical.epsilon fun x : Int × Int => Rn w bits n d p x.1 x.2
theorem R_spec {w bits n d p} (hb : 1 ≤ bits) (hd : 0 < d) : Rn w bits n d p (R w bits n d p).1 (R w bits n d p).2 := Classical.epsilon_spec (Rn_exists hb hd)
theorem R_eq {w bits n d p m e} (hb : 1 ≤ bits) (hd : 0 < d) (x : Rn w bits n d p m e) : R w bits n d p = (m, e) := by
  obtain ⟨h1, h2⟩ := Rn_unique hd (R_spec hb hd) x
  exact Prod.ext h1 h2
theorem R_congr {w bits} {p p' : Int} {n n' : Int} {d d' i i' : Nat} (hb : 1 ≤ bits) (hd : 0 < d) (hd' : 0 < d') (h : n * 2 ^ i * d' = n' * 2 ^ i' * d) (hp : p + i' = p' + i) : R w bits n d p = R w bits n' d' p' := by
  symm
  refine R_eq hb hd' ?_
  have hn : (n = 0 ↔ n' = 0) ∧ (n < 0 ↔ n' < 0) := by
    have k1 : (0 : Int) < 2 ^ i * d' := Int.mul_pos (Int.pow_pos (by decide)) (by omega)
    have k2 : (0 : Int) < 2 ^ i' * d := Int.mul_pos (Int.pow_pos (by decide)) (by omega)
    rw [Int.mul_assoc, Int.mul_assoc] at h
    generalize (2 : Int) ^ i * d' = x at *
    generalize (2 : Int) ^ i' * d = y at *
    constructor
    · constructor
      · intro z; rw [z, Int.zero_mul] at h; rcases Int.mul_eq_zero.mp h.symm with q | q <;> omega
      · intro z; rw [z, Int.zero_mul] at h; rcases Int.mul_eq_zero.mp h with q | q <;> omega
    · constructor
      · intro z
        have h1 := Int.mul_neg_of_neg_of_pos z k1
        refine Int.not_le.mp fun z' => ?_
        have := Int.mul_nonneg z' (Int.le_of_lt k2)
        omega
      · intro z
        have h1 := Int.mul_neg_of_neg_of_pos z k2
        refine Int.not_le.mp fun z' => ?_
        have := Int.mul_nonneg z' (Int.le_of_lt k1)
        omega
  rcases R_spec (w := w) (n := n) (p := p) hb hd with ⟨h1, h2, h3⟩ | ⟨h1, h2, h3⟩
  · exact .inl ⟨hn.1.mp h1, h2, h3⟩
  · refine .inr ⟨fun z => h1 (hn.1.mpr z), hn.2.symm.trans h2, ?_⟩
    have e : decide (n' < 0) = decide (n < 0) := by simp only [hn.2]
    rw [e]
    refine RD_congr hd hd' ?_ hp h3
    have := congrArg Int.natAbs h
    simpa [Int.natAbs_mul, Int.natAbs_pow] using this
end Mine

namespace Mine
open PySem PySem.W PySem.Calls PyProof.Rows PySem.Spec
def Way.s : Way → Str
  | .n => Str.ofString "n"
  | .f => Str.ofString "f"
  | .c => Str.ofString "c"
  | .u => Str.ofString "u"
  | .d => Str.ofString "d"
def Way.isN : Way → Bool
  | .n => true
  | _ => false
def Way.isF : Way → Bool
  | .f => true
  | _ => false
def Way.isC : Way → Bool
  | .c => true
  | _ => false
def Way.isU : Way → Bool
  | .u => true
  | _ => false
theorem Way.eqN (w : Way) : (w.s == Str.ofString "n") = w.isN := by cases w <;> decide
theorem Way.eqF (w : Way) : (w.s == Str.ofString "f") = w.isF := by cases w <;> decide
theorem Way.eqC (w : Way) : (w.s == Str.ofString "c") = w.isC := by cases w <;> decide
theorem Way.eqU (w : Way) : (w.s == Str.ofString "u") = w.isU := by cases w <;> decide
theorem Way.ok (w : Way) : SeqAt.shaped (.str w.s) = true := by cases w <;> kernel_rfl

theorem kEq_int {a b : Int} {Q : PyData → Prop} : kEq (.int a) (.int b) Q = Q (.bool (a == b)) := by
  have h : ∀ i : Int, SeqAt.shaped (.int i) = true := fun _ => rfl
  simp [kEq, h, PyData.eqv]
theorem kNe_int {a b : Int} {Q : PyData → Prop} : kNe (.int a) (.int b) Q = Q (.bool (!(a == b))) := by
  have h : ∀ i : Int, SeqAt.shaped (.int i) = true := fun _ => rfl
  simp [kNe, h, PyData.eqv]
theorem kEq_way (w : Way) {x : Str} {Q : PyData → Prop} (hx : SeqAt.shaped (.str x) = true := by kernel_rfl) : kEq (.str w.s) (.str x) Q = Q (.bool (w.s == x)) := by
  simp [kEq, Way.ok, hx, PyData.eqv]
theorem kEq_n (w : Way) {Q : PyData → Prop} : kEq (.str w.s) (.str (Str.ofString "n")) Q = Q (.bool w.isN) := by rw [kEq_way w, Way.eqN]
theorem kEq_f (w : Way) {Q : PyData → Prop} : kEq (.str w.s) (.str (Str.ofString "f")) Q = Q (.bool w.isF) := by rw [kEq_way w, Way.eqF]
theorem kEq_c (w : Way) {Q : PyData → Prop} : kEq (.str w.s) (.str (Str.ofString "c")) Q = Q (.bool w.isC) := by rw [kEq_way w, Way.eqC]
theorem kEq_u (w : Way) {Q : PyData → Prop} : kEq (.str w.s) (.str (Str.ofString "u")) Q = Q (.bool w.isU) := by rw [kEq_way w, Way.eqU]
abbrev p4 (a b c d : Int) : PyData := .tuple [.int a, .int b, .int c, .int d]
abbrev p2 (a b : Int) : PyData := .tuple [.int a, .int b]
theorem kEq_p4 {a b c d a' b' c' d' : Int} {Q : PyData → Prop} : kEq (p4 a b c d) (p4 a' b' c' d') Q = Q (.bool (a == a' && (b == b' && (c == c' && d == d')))) := by
  have h : ∀ a b c d : Int, SeqAt.shaped (p4 a b c d) = true := fun _ _ _ _ => rfl
  simp only [kEq, h, PyData.eqv, PyData.eqvAll, Bool.and_true, true_and]
theorem kNe_p4 {a b c d a' b' c' d' : Int} {Q : PyData → Prop} : kNe (p4 a b c d) (p4 a' b' c' d') Q = Q (.bool (!(a == a' && (b == b' && (c == c' && d == d'))))) := by
  have h : ∀ a b c d : Int, SeqAt.shaped (p4 a b c d) = true := fun _ _ _ _ => rfl
  simp only [kNe, h, PyData.eqv, PyData.eqvAll, Bool.and_true, true_and]

theorem bl_le {m : Nat} {x : Int} : bl x ≤ m ↔ x.natAbs < 2 ^ m := PySem.intBits_le_iff
theorem bl_lt {m : Nat} {x : Int} : m < bl x ↔ 2 ^ m ≤ x.natAbs := by have := @bl_le m x; omega
theorem bl_pow (k : Nat) : bl (2 ^ k) = k + 1 := by
  have h1 : ((2 : Int) ^ k).natAbs = 2 ^ k := by rw [Int.natAbs_pow]; rfl
  have h2 : bl (2 ^ k) ≤ k + 1 := bl_le.mpr (by rw [h1, Nat.pow_succ]; have := two_pos k; omega)
  have h3 : k < bl (2 ^ k) := bl_lt.mpr (by rw [h1]; exact Nat.le_refl _)
  omega
theorem bl_neg (x : Int) : bl (-x) = bl x := by
  have h1 : bl (-x) ≤ bl x := bl_le.mpr (by rw [Int.natAbs_neg]; exact bl_le.mp (Nat.le_refl _))
  have h2 : bl x ≤ bl (-x) := bl_le.mpr (by have := bl_le.mp (Nat.le_refl (bl (-x))); rwa [Int.natAbs_neg] at this)
  omega
theorem bl_natAbs (x : Int) : bl (x.natAbs : Int) = bl x := by
  rcases Int.natAbs_eq x with h | h
  · rw [← h]
  · rw [← bl_neg, ← h]
theorem bl_zero : bl 0 = 0 := by decide
theorem bl_pos {x : Int} (h : x ≠ 0) : 0 < bl x := bl_lt.mpr (by rw [Nat.pow_zero]; omega)
theorem bl_bounds {x : Int} (h : x ≠ 0) : 2 ^ (bl x - 1) ≤ x.natAbs ∧ x.natAbs < 2 ^ bl x := ⟨bl_lt.mp (by have := bl_pos h; omega), bl_le.mp (Nat.le_refl _)⟩
theorem bl_eq {x : Int} {k : Nat} (h1 : 2 ^ k ≤ x.natAbs) (h2 : x.natAbs < 2 ^ (k + 1)) : bl x = k + 1 := by
  have := bl_le.mpr h2; have := bl_lt.mpr h1; omega
end Mine

namespace Mine
open PySem PySem.W PyProof.Rows
set_option maxRecDepth 100000 in
set_option maxHeartbeats 8000000 in
open_top hd for PySem.Challenge.rw_bg5013_01
end Mine

namespace Mine
open PySem PySem.W PySem.Calls PyProof.Rows PySem.Spec
variable {cx : Cx}
abbrev KK (cx : Cx) : Prop := cx.K = hd.heap_39 cx.w.params

theorem g_MPZ_ZERO (hK : KK cx) : nsIn cx.K mainGlobals (Str.ofString "MPZ_ZERO") = some (some (.int 0 187)) := by rw [hK]; kernel_rfl
theorem g_MPZ_ONE (hK : KK cx) : nsIn cx.K mainGlobals (Str.ofString "MPZ_ONE") = some (some (.int 1 189)) := by rw [hK]; kernel_rfl
theorem g_trailing (hK : KK cx) : nsIn cx.K mainGlobals (Str.ofString "trailing") = some (some (.ref 21)) := by rw [hK]; kernel_rfl
theorem g_isqrt_small (hK : KK cx) : nsIn cx.K mainGlobals (Str.ofString "isqrt_small") = some (some (.ref 28)) := by rw [hK]; kernel_rfl
theorem g_sqrtrem (hK : KK cx) : nsIn cx.K mainGlobals (Str.ofString "sqrtrem") = some (some (.ref 35)) := by rw [hK]; kernel_rfl
theorem g_isqrt (hK : KK cx) : nsIn cx.K mainGlobals (Str.ofString "isqrt") = some (some (.ref 42)) := by rw [hK]; kernel_rfl
theorem g_ComplexResult (hK : KK cx) : nsIn cx.K mainGlobals (Str.ofString "ComplexResult") = some (some (.ref 52)) := by rw [hK]; kernel_rfl
theorem g_round_nearest (hK : KK cx) : nsIn cx.K mainGlobals (Str.ofString "round_nearest") = some (some (.str (Str.ofString "n") 244)) := by rw [hK]; kernel_rfl
theorem g_round_floor (hK : KK cx) : nsIn cx.K mainGlobals (Str.ofString "round_floor") = some (some (.str (Str.ofString "f") 246)) := by rw [hK]; kernel_rfl
theorem g_round_ceiling (hK : KK cx) : nsIn cx.K mainGlobals (Str.ofString "round_ceiling") = some (some (.str (Str.ofString "c") 248)) := by rw [hK]; kernel_rfl
theorem g_round_up (hK : KK cx) : nsIn cx.K mainGlobals (Str.ofString "round_up") = some (some (.str (Str.ofString "u") 250)) := by rw [hK]; kernel_rfl
theorem g_round_down (hK : KK cx) : nsIn cx.K mainGlobals (Str.ofString "round_down") = some (some (.str (Str.ofString "d") 252)) := by rw [hK]; kernel_rfl
theorem g_round_fast (hK : KK cx) : nsIn cx.K mainGlobals (Str.ofString "round_fast") = some (some (.str (Str.ofString "d") 252)) := by rw [hK]; kernel_rfl
theorem g_fzero (hK : KK cx) : nsIn cx.K mainGlobals (Str.ofString "fzero") = some (some (.ref 56)) := by rw [hK]; kernel_rfl
theorem g_fone (hK : KK cx) : nsIn cx.K mainGlobals (Str.ofString "fone") = some (some (.ref 57)) := by rw [hK]; kernel_rfl
theorem g_fnone (hK : KK cx) : nsIn cx.K mainGlobals (Str.ofString "fnone") = some (some (.ref 58)) := by rw [hK]; kernel_rfl
theorem g_fnan (hK : KK cx) : nsIn cx.K mainGlobals (Str.ofString "fnan") = some (some (.ref 59)) := by rw [hK]; kernel_rfl
theorem g_finf (hK : KK cx) : nsIn cx.K mainGlobals (Str.ofString "finf") = some (some (.ref 60)) := by rw [hK]; kernel_rfl
theorem g_fninf (hK : KK cx) : nsIn cx.K mainGlobals (Str.ofString "fninf") = some (some (.ref 61)) := by rw [hK]; kernel_rfl
theorem g_shifts_down (hK : KK cx) : nsIn cx.K mainGlobals (Str.ofString "shifts_down") = some (some (.ref 62)) := by rw [hK]; kernel_rfl
theorem g_norm0 (hK : KK cx) : nsIn cx.K mainGlobals (Str.ofString "_normalize") = some (some (.ref 73)) := by rw [hK]; kernel_rfl
theorem g_normalize (hK : KK cx) : nsIn cx.K mainGlobals (Str.ofString "normalize") = some (some (.ref 80)) := by rw [hK]; kernel_rfl
theorem g_from_man_exp (hK : KK cx) : nsIn cx.K mainGlobals (Str.ofString "from_man_exp") = some (some (.ref 88)) := by rw [hK]; kernel_rfl
theorem g_from_int (hK : KK cx) : nsIn cx.K mainGlobals (Str.ofString "from_int") = some (some (.ref 96)) := by rw [hK]; kernel_rfl
theorem g_mpf_round_int (hK : KK cx) : nsIn cx.K mainGlobals (Str.ofString "mpf_round_int") = some (some (.ref 103)) := by rw [hK]; kernel_rfl
theorem g_mpf_floor (hK : KK cx) : nsIn cx.K mainGlobals (Str.ofString "mpf_floor") = some (some (.ref 111)) := by rw [hK]; kernel_rfl
theorem g_mpf_ceil (hK : KK cx) : nsIn cx.K mainGlobals (Str.ofString "mpf_ceil") = some (some (.ref 119)) := by rw [hK]; kernel_rfl
theorem g_mpf_nint (hK : KK cx) : nsIn cx.K mainGlobals (Str.ofString "mpf_nint") = some (some (.ref 127)) := by rw [hK]; kernel_rfl
theorem g_mpf_frac (hK : KK cx) : nsIn cx.K mainGlobals (Str.ofString "mpf_frac") = some (some (.ref 135)) := by rw [hK]; kernel_rfl
theorem g_to_rational (hK : KK cx) : nsIn cx.K mainGlobals (Str.ofString "to_rational") = some (some (.ref 142)) := by rw [hK]; kernel_rfl
theorem g_mpf_eq (hK : KK cx) : nsIn cx.K mainGlobals (Str.ofString "mpf_eq") = some (some (.ref 149)) := by rw [hK]; kernel_rfl
theorem g_mpf_cmp (hK : KK cx) : nsIn cx.K mainGlobals (Str.ofString "mpf_cmp") = some (some (.ref 156)) := by rw [hK]; kernel_rfl
theorem g_mpf_lt (hK : KK cx) : nsIn cx.K mainGlobals (Str.ofString "mpf_lt") = some (some (.ref 163)) := by rw [hK]; kernel_rfl
theorem g_mpf_le (hK : KK cx) : nsIn cx.K mainGlobals (Str.ofString "mpf_le") = some (some (.ref 170)) := by rw [hK]; kernel_rfl
theorem g_mpf_gt (hK : KK cx) : nsIn cx.K mainGlobals (Str.ofString "mpf_gt") = some (some (.ref 177)) := by rw [hK]; kernel_rfl
theorem g_mpf_ge (hK : KK cx) : nsIn cx.K mainGlobals (Str.ofString "mpf_ge") = some (some (.ref 184)) := by rw [hK]; kernel_rfl
theorem g_mpf_min_max (hK : KK cx) : nsIn cx.K mainGlobals (Str.ofString "mpf_min_max") = some (some (.ref 191)) := by rw [hK]; kernel_rfl
theorem g_mpf_pos (hK : KK cx) : nsIn cx.K mainGlobals (Str.ofString "mpf_pos") = some (some (.ref 199)) := by rw [hK]; kernel_rfl
theorem g_mpf_neg (hK : KK cx) : nsIn cx.K mainGlobals (Str.ofString "mpf_neg") = some (some (.ref 207)) := by rw [hK]; kernel_rfl
theorem g_mpf_abs (hK : KK cx) : nsIn cx.K mainGlobals (Str.ofString "mpf_abs") = some (some (.ref 215)) := by rw [hK]; kernel_rfl
theorem g_mpf_sign (hK : KK cx) : nsIn cx.K mainGlobals (Str.ofString "mpf_sign") = some (some (.ref 222)) := by rw [hK]; kernel_rfl
theorem g_mpf_add (hK : KK cx) : nsIn cx.K mainGlobals (Str.ofString "mpf_add") = some (some (.ref 230)) := by rw [hK]; kernel_rfl
theorem g_mpf_sub (hK : KK cx) : nsIn cx.K mainGlobals (Str.ofString "mpf_sub") = some (some (.ref 238)) := by rw [hK]; kernel_rfl
theorem g_mpf_sum (hK : KK cx) : nsIn cx.K mainGlobals (Str.ofString "mpf_sum") = some (some (.ref 246)) := by rw [hK]; kernel_rfl
theorem g_mpf_mul (hK : KK cx) : nsIn cx.K mainGlobals (Str.ofString "mpf_mul") = some (some (.ref 254)) := by rw [hK]; kernel_rfl
theorem g_mpf_mul_int (hK : KK cx) : nsIn cx.K mainGlobals (Str.ofString "mpf_mul_int") = some (some (.ref 262)) := by rw [hK]; kernel_rfl
theorem g_mpf_shift (hK : KK cx) : nsIn cx.K mainGlobals (Str.ofString "mpf_shift") = some (some (.ref 269)) := by rw [hK]; kernel_rfl
theorem g_mpf_frexp (hK : KK cx) : nsIn cx.K mainGlobals (Str.ofString "mpf_frexp") = some (some (.ref 276)) := by rw [hK]; kernel_rfl
theorem g_mpf_div (hK : KK cx) : nsIn cx.K mainGlobals (Str.ofString "mpf_div") = some (some (.ref 284)) := by rw [hK]; kernel_rfl
theorem g_mpf_rdiv_int (hK : KK cx) : nsIn cx.K mainGlobals (Str.ofString "mpf_rdiv_int") = some (some (.ref 292)) := by rw [hK]; kernel_rfl
theorem g_mpf_mod (hK : KK cx) : nsIn cx.K mainGlobals (Str.ofString "mpf_mod") = some (some (.ref 300)) := by rw [hK]; kernel_rfl
theorem g_reciprocal_rnd (hK : KK cx) : nsIn cx.K mainGlobals (Str.ofString "reciprocal_rnd") = some (some (.ref 301)) := by rw [hK]; kernel_rfl
theorem g_mpf_pow_int (hK : KK cx) : nsIn cx.K mainGlobals (Str.ofString "mpf_pow_int") = some (some (.ref 309)) := by rw [hK]; kernel_rfl
theorem g_mpf_sqrt (hK : KK cx) : nsIn cx.K mainGlobals (Str.ofString "mpf_sqrt") = some (some (.ref 317)) := by rw [hK]; kernel_rfl
theorem g_l_round (hK : KK cx) : nsIn cx.K mainGlobals (Str.ofString "_law_round") = some (some (.ref 324)) := by rw [hK]; kernel_rfl
theorem g_l_root (hK : KK cx) : nsIn cx.K mainGlobals (Str.ofString "_law_root") = some (some (.ref 331)) := by rw [hK]; kernel_rfl
theorem g_l_plus (hK : KK cx) : nsIn cx.K mainGlobals (Str.ofString "_law_plus") = some (some (.ref 338)) := by rw [hK]; kernel_rfl
theorem g_l_whole (hK : KK cx) : nsIn cx.K mainGlobals (Str.ofString "_law_whole") = some (some (.ref 345)) := by rw [hK]; kernel_rfl
theorem g_l_plain (hK : KK cx) : nsIn cx.K mainGlobals (Str.ofString "_law_plain") = some (some (.ref 352)) := by rw [hK]; kernel_rfl
theorem g_l_pack (hK : KK cx) : nsIn cx.K mainGlobals (Str.ofString "_law_pack") = some (some (.ref 359)) := by rw [hK]; kernel_rfl
theorem g_l_same (hK : KK cx) : nsIn cx.K mainGlobals (Str.ofString "_law_same") = some (some (.ref 366)) := by rw [hK]; kernel_rfl
theorem g_law (hK : KK cx) : nsIn cx.K mainGlobals (Str.ofString "law") = some (some (.ref 373)) := by rw [hK]; kernel_rfl
theorem n_abs (hK : KK cx) : nsIn cx.K mainGlobals (Str.ofString "abs") = some none := by rw [hK]; kernel_rfl
theorem n_all (hK : KK cx) : nsIn cx.K mainGlobals (Str.ofString "all") = some none := by rw [hK]; kernel_rfl
theorem n_divmod (hK : KK cx) : nsIn cx.K mainGlobals (Str.ofString "divmod") = some none := by rw [hK]; kernel_rfl
theorem n_enumerate (hK : KK cx) : nsIn cx.K mainGlobals (Str.ofString "enumerate") = some none := by rw [hK]; kernel_rfl
theorem n_int (hK : KK cx) : nsIn cx.K mainGlobals (Str.ofString "int") = some none := by rw [hK]; kernel_rfl
theorem n_isinstance (hK : KK cx) : nsIn cx.K mainGlobals (Str.ofString "isinstance") = some none := by rw [hK]; kernel_rfl
theorem n_max (hK : KK cx) : nsIn cx.K mainGlobals (Str.ofString "max") = some none := by rw [hK]; kernel_rfl
theorem n_min (hK : KK cx) : nsIn cx.K mainGlobals (Str.ofString "min") = some none := by rw [hK]; kernel_rfl
theorem n_str (hK : KK cx) : nsIn cx.K mainGlobals (Str.ofString "str") = some none := by rw [hK]; kernel_rfl
theorem n_tuple (hK : KK cx) : nsIn cx.K mainGlobals (Str.ofString "tuple") = some none := by rw [hK]; kernel_rfl
theorem n_type (hK : KK cx) : nsIn cx.K mainGlobals (Str.ofString "type") = some none := by rw [hK]; kernel_rfl
theorem n_zip (hK : KK cx) : nsIn cx.K mainGlobals (Str.ofString "zip") = some none := by rw [hK]; kernel_rfl
theorem n_ZeroDivisionError (hK : KK cx) : nsIn cx.K mainGlobals (Str.ofString "ZeroDivisionError") = some none := by rw [hK]; kernel_rfl
end Mine

namespace Mine
open PySem PySem.W PySem.Calls PyProof.Rows PySem.Spec
variable {cx : Cx}
abbrev p_fzero : PyData := p4 0 0 0 0
abbrev p_fone : PyData := p4 0 1 0 1
abbrev p_fnone : PyData := p4 1 1 0 1
abbrev p_fnan : PyData := p4 0 0 (-123) (-1)
abbrev p_finf : PyData := p4 0 0 (-456) (-2)
abbrev p_fninf : PyData := p4 1 0 (-789) (-3)
theorem r_fzero (hK : KK cx) : ∀ h X, cx.K.In h → (∀ b ∈ X, cx.N ≤ b) → Rd h X (.ref 56) p_fzero := rd_tup (K₀ := hd.heap_39 cx.w.params) hK rfl fun _ _ => .cons (.int _ _) (.cons (.int _ _) (.cons (.int _ _) (.cons (.int _ _) .nil)))
theorem r_fone (hK : KK cx) : ∀ h X, cx.K.In h → (∀ b ∈ X, cx.N ≤ b) → Rd h X (.ref 57) p_fone := rd_tup (K₀ := hd.heap_39 cx.w.params) hK rfl fun _ _ => .cons (.int _ _) (.cons (.int _ _) (.cons (.int _ _) (.cons (.int _ _) .nil)))
theorem r_fnone (hK : KK cx) : ∀ h X, cx.K.In h → (∀ b ∈ X, cx.N ≤ b) → Rd h X (.ref 58) p_fnone := rd_tup (K₀ := hd.heap_39 cx.w.params) hK rfl fun _ _ => .cons (.int _ _) (.cons (.int _ _) (.cons (.int _ _) (.cons (.int _ _) .nil)))
theorem r_fnan (hK : KK cx) : ∀ h X, cx.K.In h → (∀ b ∈ X, cx.N ≤ b) → Rd h X (.ref 59) p_fnan := rd_tup (K₀ := hd.heap_39 cx.w.params) hK rfl fun _ _ => .cons (.int _ _) (.cons (.int _ _) (.cons (.int _ _) (.cons (.int _ _) .nil)))
theorem r_finf (hK : KK cx) : ∀ h X, cx.K.In h → (∀ b ∈ X, cx.N ≤ b) → Rd h X (.ref 60) p_finf := rd_tup (K₀ := hd.heap_39 cx.w.params) hK rfl fun _ _ => .cons (.int _ _) (.cons (.int _ _) (.cons (.int _ _) (.cons (.int _ _) .nil)))
theorem r_fninf (hK : KK cx) : ∀ h X, cx.K.In h → (∀ b ∈ X, cx.N ≤ b) → Rd h X (.ref 61) p_fninf := rd_tup (K₀ := hd.heap_39 cx.w.params) hK rfl fun _ _ => .cons (.int _ _) (.cons (.int _ _) (.cons (.int _ _) (.cons (.int _ _) .nil)))
theorem down_f (hK : KK cx) : DictHas cx 62 (Str.ofString "f") (p2 1 0) := ⟨.ref 63, by rw [hK]; kernel_rfl, rd_tup (K₀ := hd.heap_39 cx.w.params) hK rfl fun _ _ => .cons (.int _ _) (.cons (.int _ _) .nil)⟩
theorem down_c (hK : KK cx) : DictHas cx 62 (Str.ofString "c") (p2 0 1) := ⟨.ref 64, by rw [hK]; kernel_rfl, rd_tup (K₀ := hd.heap_39 cx.w.params) hK rfl fun _ _ => .cons (.int _ _) (.cons (.int _ _) .nil)⟩
theorem down_d (hK : KK cx) : DictHas cx 62 (Str.ofString "d") (p2 1 1) := ⟨.ref 65, by rw [hK]; kernel_rfl, rd_tup (K₀ := hd.heap_39 cx.w.params) hK rfl fun _ _ => .cons (.int _ _) (.cons (.int _ _) .nil)⟩
theorem down_u (hK : KK cx) : DictHas cx 62 (Str.ofString "u") (p2 0 0) := ⟨.ref 66, by rw [hK]; kernel_rfl, rd_tup (K₀ := hd.heap_39 cx.w.params) hK rfl fun _ _ => .cons (.int _ _) (.cons (.int _ _) .nil)⟩
theorem shifts_K (P : Params) : ∃ ds n, (hd.heap_39 P).lookup 62 = some ⟨.type "dict", none, .dict ds n, #[]⟩ ∧ KeysLit P ds.toList :=
  ⟨_, _, rfl, ⟨_, _, rfl, rfl⟩, ⟨_, _, rfl, rfl⟩, ⟨_, _, rfl, rfl⟩, ⟨_, _, rfl, rfl⟩, trivial⟩
theorem SE_shifts {fc : Fc} {ns : List Str} {slice : Expr} {t : Tr} {p pos : Pos} (hK : KK cx) (hx : fc.cs.names.lookup (Str.ofString "shifts_down") = some .globalImplicit) (hi : SE cx fc ns slice t) (hs : PlainSlice slice) :
    SE cx fc ns (.Subscript (.Name (Str.ofString "shifts_down") p) slice pos) (tDict cx 62 t) := by
  obtain ⟨ds, n, h1, h2⟩ := shifts_K cx.w.params
  exact SE_dict hx (g_shifts_down hK) (by rw [hK]; exact h1) h2 hi hs
theorem exc_cplx (hK : KK cx) : excIn cx.K 52 [.type "ValueError", .type "Exception", .type "BaseException", .type "object"] "ValueError.__new__" = true := by rw [hK]; kernel_rfl
end Mine

namespace Mine
open PySem PySem.W PySem.Calls PyProof.Rows PySem.Spec
variable {cx : Cx}
def q_trailing_1 (cx : Cx) : Tx := tSeq (tRet (tBin kSub (tBl (tBin kAnd (tName 0) (tNeg (tName 0)))) (tInt 1)))
  tSkip
def q_trailing (cx : Cx) : Tx := tSeq (tIf (tNotT (tTruth (tName 0))) (tSeq (tRet (tInt 0))
  tSkip)
  tSkip)
  (q_trailing_1 cx)
theorem s_trailing {ρ σ P} (h : ∀ R : Tx, R = q_trailing_1 cx → tSeq (tIf (tNotT (tTruth (tName 0))) (tSeq (tRet (tInt 0))
  tSkip)
  tSkip) R ρ σ P) : q_trailing cx ρ σ P := h _ rfl
abbrev ns_trailing : List Str := [Str.ofString "n"]
theorem w_trailing (hK : KK cx) {args : List PyData} {out : Except Exn PyData} (hl : args.length = 1) (hvc : q_trailing cx (valSlots (args ++ []) 0) [] (callPost out)) : CallOK cx 21 0 args out := by
  refine call_ok (n := 0) (dfl := []) (tx := q_trailing cx) [Str.ofString "n"] ns_trailing [] hK rfl (by kernel_rfl) (fun us s hu hk => ?_) (fun _ _ _ _ => Rds.nil) (by rw [List.length_append, hl]; rfl) (fun i x h => ?_) (by decide +kernel) (by decide +kernel) rfl rfl rfl (by decide) (fun fc hcs hrk => ?_) hvc
  · rw [hl] at hu
    obtain ⟨u0, rfl⟩ := len_1 hu
    exact BindsTo.of_eq rfl
  · exact nth_sub (by decide +kernel) h
  · skip
    exact (SX_cons (SX_if (ST_not (ST_val (SE_name (i := 0) rfl))) (SX_cons (SX_ret SE_int)
  SX_nil)
  SX_nil)
  (SX_cons (SX_ret (SE_bin b_sub (SE_bl (SE_bin b_and (SE_name (i := 0) rfl) (SE_neg (SE_name (i := 0) rfl))) rfl rfl) SE_int))
  SX_nil))

def q_isqrt_small_2 (cx : Cx) : Tx := tSeq (tWhile (tTruth (tInt 1)) (tSeq (tSet 2 (tBin kShr (tBin kAdd (tName 1) (tBin kDiv (tName 0) (tName 1))) (tInt 1)))
  (tSeq (tIf (tTest (tBin kGe (tName 2) (tName 1))) (tSeq (tRet (tName 1))
  tSkip)
  tSkip)
  (tSeq (tSet 1 (tName 2))
  tSkip))))
  tSkip
def q_isqrt_small_1 (cx : Cx) : Tx := tSeq (tSet 1 (tBin kShl (tInt 1) (tBin kShr (tBin kAdd (tBl (tName 0)) (tInt 1)) (tInt 1))))
  (q_isqrt_small_2 cx)
theorem s_isqrt_small_1 {ρ σ P} (h : ∀ R : Tx, R = q_isqrt_small_2 cx → tSeq (tSet 1 (tBin kShl (tInt 1) (tBin kShr (tBin kAdd (tBl (tName 0)) (tInt 1)) (tInt 1)))) R ρ σ P) : q_isqrt_small_1 cx ρ σ P := h _ rfl
def q_isqrt_small (cx : Cx) : Tx := tSeq (tIf (tNotT (tTruth (tName 0))) (tSeq (tRet (tName 0))
  tSkip)
  tSkip)
  (q_isqrt_small_1 cx)
theorem s_isqrt_small {ρ σ P} (h : ∀ R : Tx, R = q_isqrt_small_1 cx → tSeq (tIf (tNotT (tTruth (tName 0))) (tSeq (tRet (tName 0))
  tSkip)
  tSkip) R ρ σ P) : q_isqrt_small cx ρ σ P := h _ rfl
abbrev ns_isqrt_small : List Str := [Str.ofString "x", Str.ofString "r", Str.ofString "y"]
theorem w_isqrt_small (hK : KK cx) {args : List PyData} {out : Except Exn PyData} (hl : args.length = 1) (hvc : q_isqrt_small cx (valSlots (args ++ []) 2) [] (callPost out)) : CallOK cx 28 0 args out := by
  refine call_ok (n := 2) (dfl := []) (tx := q_isqrt_small cx) [Str.ofString "x"] ns_isqrt_small [] hK rfl (by kernel_rfl) (fun us s hu hk => ?_) (fun _ _ _ _ => Rds.nil) (by rw [List.length_append, hl]; rfl) (fun i x h => ?_) (by decide +kernel) (by decide +kernel) rfl rfl rfl (by decide) (fun fc hcs hrk => ?_) hvc
  · rw [hl] at hu
    obtain ⟨u0, rfl⟩ := len_1 hu
    exact BindsTo.of_eq rfl
  · exact nth_sub (by decide +kernel) h
  · skip
    exact (SX_cons (SX_if (ST_not (ST_val (SE_name (i := 0) rfl))) (SX_cons (SX_ret (SE_name (i := 0) rfl))
  SX_nil)
  SX_nil)
  (SX_cons (SX_set (i := 1) rfl (SE_bin b_shl SE_int (SE_bin b_shr (SE_bin b_add (SE_bl (SE_name (i := 0) rfl) rfl rfl) SE_int) SE_int)))
  (SX_cons (SX_while (ST_val SE_int) (SX_cons (SX_set (i := 2) rfl (SE_bin b_shr (SE_bin b_add (SE_name (i := 1) rfl) (SE_bin b_div (SE_name (i := 0) rfl) (SE_name (i := 1) rfl))) SE_int))
  (SX_cons (SX_if (ST_cmp c_ge (SE_name (i := 2) rfl) (SE_name (i := 1) rfl) rfl) (SX_cons (SX_ret (SE_name (i := 1) rfl))
  SX_nil)
  SX_nil)
  (SX_cons (SX_set (i := 1) rfl (SE_name (i := 2) rfl))
  SX_nil))))
  SX_nil)))

def q_sqrtrem_1 (cx : Cx) : Tx := tSeq (tRet (tTup (tCons (tName 1) (tCons (tBin kSub (tName 0) (tBin kMul (tName 1) (tName 1))) tNil))))
  tSkip
def q_sqrtrem (cx : Cx) : Tx := tSeq (tSet 1 (tCall cx 1 28 (tCons (tName 0) tNil)))
  (q_sqrtrem_1 cx)
theorem s_sqrtrem {ρ σ P} (h : ∀ R : Tx, R = q_sqrtrem_1 cx → tSeq (tSet 1 (tCall cx 1 28 (tCons (tName 0) tNil))) R ρ σ P) : q_sqrtrem cx ρ σ P := h _ rfl
abbrev ns_sqrtrem : List Str := [Str.ofString "x", Str.ofString "y"]
theorem w_sqrtrem (hK : KK cx) {args : List PyData} {out : Except Exn PyData} (hl : args.length = 1) (hvc : q_sqrtrem cx (valSlots (args ++ []) 1) [] (callPost out)) : CallOK cx 35 1 args out := by
  refine call_ok (n := 1) (dfl := []) (tx := q_sqrtrem cx) [Str.ofString "x"] ns_sqrtrem [] hK rfl (by kernel_rfl) (fun us s hu hk => ?_) (fun _ _ _ _ => Rds.nil) (by rw [List.length_append, hl]; rfl) (fun i x h => ?_) (by decide +kernel) (by decide +kernel) rfl rfl rfl (by decide) (fun fc hcs hrk => ?_) hvc
  · rw [hl] at hu
    obtain ⟨u0, rfl⟩ := len_1 hu
    exact BindsTo.of_eq rfl
  · exact nth_sub (by decide +kernel) h
  · have l_isqrt_small : fc.cs.names.lookup (Str.ofString "isqrt_small") = some .globalImplicit := by rw [hcs]; rfl
    exact (SX_cons (SX_set (i := 1) rfl (SE_callR (n := 1) l_isqrt_small (g_isqrt_small hK) hK rfl hrk (SEs_cons (SE_name (i := 0) rfl) SEs_nil)))
  (SX_cons (SX_ret (SE_tup (SEs_cons (SE_name (i := 1) rfl) (SEs_cons (SE_bin b_sub (SE_name (i := 0) rfl) (SE_bin b_mul (SE_name (i := 1) rfl) (SE_name (i := 1) rfl))) SEs_nil))))
  SX_nil))

def q_isqrt (cx : Cx) : Tx := tSeq (tRet (tSub (tCall cx 2 35 (tCons (tName 0) tNil)) (tInt 0)))
  tSkip
abbrev ns_isqrt : List Str := [Str.ofString "x"]
theorem w_isqrt (hK : KK cx) {args : List PyData} {out : Except Exn PyData} (hl : args.length = 1) (hvc : q_isqrt cx (valSlots (args ++ []) 0) [] (callPost out)) : CallOK cx 42 2 args out := by
  refine call_ok (n := 0) (dfl := []) (tx := q_isqrt cx) [Str.ofString "x"] ns_isqrt [] hK rfl (by kernel_rfl) (fun us s hu hk => ?_) (fun _ _ _ _ => Rds.nil) (by rw [List.length_append, hl]; rfl) (fun i x h => ?_) (by decide +kernel) (by decide +kernel) rfl rfl rfl (by decide) (fun fc hcs hrk => ?_) hvc
  · rw [hl] at hu
    obtain ⟨u0, rfl⟩ := len_1 hu
    exact BindsTo.of_eq rfl
  · exact nth_sub (by decide +kernel) h
  · have l_sqrtrem : fc.cs.names.lookup (Str.ofString "sqrtrem") = some .globalImplicit := by rw [hcs]; rfl
    exact (SX_cons (SX_ret (SE_sub (SE_callR (n := 2) l_sqrtrem (g_sqrtrem hK) hK rfl hrk (SEs_cons (SE_name (i := 0) rfl) SEs_nil)) SE_int (fun _ _ => rfl)))
  SX_nil)

def q_norm0_5 (cx : Cx) : Tx := tSeq (tRet (tTup (tCons (tName 0) (tCons (tName 1) (tCons (tName 2) (tCons (tName 3) tNil))))))
  tSkip
def q_norm0_4 (cx : Cx) : Tx := tSeq (tIf (tTest (tBin kEq (tName 1) (tInt 1))) (tSeq (tSet 3 (tInt 1))
  tSkip)
  tSkip)
  (q_norm0_5 cx)
theorem s_norm0_4 {ρ σ P} (h : ∀ R : Tx, R = q_norm0_5 cx → tSeq (tIf (tTest (tBin kEq (tName 1) (tInt 1))) (tSeq (tSet 3 (tInt 1))
  tSkip)
  tSkip) R ρ σ P) : q_norm0_4 cx ρ σ P := h _ rfl
def q_norm0_3 (cx : Cx) : Tx := tSeq (tIf (tNotT (tTruth (tBin kAnd (tName 1) (tInt 1)))) (tSeq (tSet 7 (tCall cx 1 21 (tCons (tName 1) tNil)))
  (tSeq (tAug 1 kShr (tName 7))
  (tSeq (tAug 2 kAdd (tName 7))
  (tSeq (tAug 3 kSub (tName 7))
  tSkip))))
  tSkip)
  (q_norm0_4 cx)
theorem s_norm0_3 {ρ σ P} (h : ∀ R : Tx, R = q_norm0_4 cx → tSeq (tIf (tNotT (tTruth (tBin kAnd (tName 1) (tInt 1)))) (tSeq (tSet 7 (tCall cx 1 21 (tCons (tName 1) tNil)))
  (tSeq (tAug 1 kShr (tName 7))
  (tSeq (tAug 2 kAdd (tName 7))
  (tSeq (tAug 3 kSub (tName 7))
  tSkip))))
  tSkip) R ρ σ P) : q_norm0_3 cx ρ σ P := h _ rfl
def q_norm0_2 (cx : Cx) : Tx := tSeq (tIf (tTest (tBin kGt (tName 6) (tInt 0))) (tSeq (tIf (tTest (tBin kEq (tName 5) (tGlob (.str (Str.ofString "n"))))) (tSeq (tSet 7 (tBin kShr (tName 1) (tBin kSub (tName 6) (tInt 1))))
  (tSeq (tIf (tAndT (tTruth (tBin kAnd (tName 7) (tInt 1))) (tAndT (tOrT (tTruth (tBin kAnd (tName 7) (tInt 2))) (tOrT (tTruth (tBin kAnd (tName 1) (tBin kSub (tBin kShl (tGlob (.int 1)) (tBin kSub (tName 6) (tInt 1))) (tInt 1)))) tFalse)) tTrue)) (tSeq (tSet 1 (tBin kAdd (tBin kShr (tName 7) (tInt 1)) (tInt 1)))
  tSkip)
  (tSeq (tSet 1 (tBin kShr (tName 7) (tInt 1)))
  tSkip))
  tSkip))
  (tSeq (tIf (tTruth (tSub (tDict cx 62 (tName 5)) (tName 0))) (tSeq (tAug 1 kShr (tName 6))
  tSkip)
  (tSeq (tSet 1 (tNeg (tBin kShr (tNeg (tName 1)) (tName 6))))
  tSkip))
  tSkip))
  (tSeq (tAug 2 kAdd (tName 6))
  (tSeq (tSet 3 (tName 4))
  tSkip)))
  tSkip)
  (q_norm0_3 cx)
theorem s_norm0_2 {ρ σ P} (h : ∀ R : Tx, R = q_norm0_3 cx → tSeq (tIf (tTest (tBin kGt (tName 6) (tInt 0))) (tSeq (tIf (tTest (tBin kEq (tName 5) (tGlob (.str (Str.ofString "n"))))) (tSeq (tSet 7 (tBin kShr (tName 1) (tBin kSub (tName 6) (tInt 1))))
  (tSeq (tIf (tAndT (tTruth (tBin kAnd (tName 7) (tInt 1))) (tAndT (tOrT (tTruth (tBin kAnd (tName 7) (tInt 2))) (tOrT (tTruth (tBin kAnd (tName 1) (tBin kSub (tBin kShl (tGlob (.int 1)) (tBin kSub (tName 6) (tInt 1))) (tInt 1)))) tFalse)) tTrue)) (tSeq (tSet 1 (tBin kAdd (tBin kShr (tName 7) (tInt 1)) (tInt 1)))
  tSkip)
  (tSeq (tSet 1 (tBin kShr (tName 7) (tInt 1)))
  tSkip))
  tSkip))
  (tSeq (tIf (tTruth (tSub (tDict cx 62 (tName 5)) (tName 0))) (tSeq (tAug 1 kShr (tName 6))
  tSkip)
  (tSeq (tSet 1 (tNeg (tBin kShr (tNeg (tName 1)) (tName 6))))
  tSkip))
  tSkip))
  (tSeq (tAug 2 kAdd (tName 6))
  (tSeq (tSet 3 (tName 4))
  tSkip)))
  tSkip) R ρ σ P) : q_norm0_2 cx ρ σ P := h _ rfl
def q_norm0_1 (cx : Cx) : Tx := tSeq (tSet 6 (tBin kSub (tName 3) (tName 4)))
  (q_norm0_2 cx)
theorem s_norm0_1 {ρ σ P} (h : ∀ R : Tx, R = q_norm0_2 cx → tSeq (tSet 6 (tBin kSub (tName 3) (tName 4))) R ρ σ P) : q_norm0_1 cx ρ σ P := h _ rfl
def q_norm0 (cx : Cx) : Tx := tSeq (tIf (tNotT (tTruth (tName 1))) (tSeq (tRet (tGlob p_fzero))
  tSkip)
  tSkip)
  (q_norm0_1 cx)
theorem s_norm0 {ρ σ P} (h : ∀ R : Tx, R = q_norm0_1 cx → tSeq (tIf (tNotT (tTruth (tName 1))) (tSeq (tRet (tGlob p_fzero))
  tSkip)
  tSkip) R ρ σ P) : q_norm0 cx ρ σ P := h _ rfl
abbrev ns_norm0 : List Str := [Str.ofString "sign", Str.ofString "man", Str.ofString "exp", Str.ofString "bc", Str.ofString "prec", Str.ofString "rnd", Str.ofString "n", Str.ofString "t"]
theorem w_norm0 (hK : KK cx) {args : List PyData} {out : Except Exn PyData} (hl : args.length = 6) (hvc : q_norm0 cx (valSlots (args ++ []) 2) [] (callPost out)) : CallOK cx 73 1 args out := by
  refine call_ok (n := 2) (dfl := []) (tx := q_norm0 cx) [Str.ofString "sign", Str.ofString "man", Str.ofString "exp", Str.ofString "bc", Str.ofString "prec", Str.ofString "rnd"] ns_norm0 [] hK rfl (by kernel_rfl) (fun us s hu hk => ?_) (fun _ _ _ _ => Rds.nil) (by rw [List.length_append, hl]; rfl) (fun i x h => ?_) (by decide +kernel) (by decide +kernel) rfl rfl rfl (by decide) (fun fc hcs hrk => ?_) hvc
  · rw [hl] at hu
    obtain ⟨u0, u1, u2, u3, u4, u5, rfl⟩ := len_6 hu
    exact BindsTo.of_eq rfl
  · exact nth_sub (by decide +kernel) h
  · have l_fzero : fc.cs.names.lookup (Str.ofString "fzero") = some .globalImplicit := by rw [hcs]; rfl
    have l_round_nearest : fc.cs.names.lookup (Str.ofString "round_nearest") = some .globalImplicit := by rw [hcs]; rfl
    have l_MPZ_ONE : fc.cs.names.lookup (Str.ofString "MPZ_ONE") = some .globalImplicit := by rw [hcs]; rfl
    have l_shifts_down : fc.cs.names.lookup (Str.ofString "shifts_down") = some .globalImplicit := by rw [hcs]; rfl
    have l_trailing : fc.cs.names.lookup (Str.ofString "trailing") = some .globalImplicit := by rw [hcs]; rfl
    exact (SX_cons (SX_if (ST_not (ST_val (SE_name (i := 1) rfl))) (SX_cons (SX_ret (SE_glob l_fzero (g_fzero hK) (r_fzero hK)))
  SX_nil)
  SX_nil)
  (SX_cons (SX_set (i := 6) rfl (SE_bin b_sub (SE_name (i := 3) rfl) (SE_name (i := 4) rfl)))
  (SX_cons (SX_if (ST_cmp c_gt (SE_name (i := 6) rfl) SE_int rfl) (SX_cons (SX_if (ST_cmp c_eq (SE_name (i := 5) rfl) (SE_glob l_round_nearest (g_round_nearest hK) (fun _ _ _ _ => .str _ _)) rfl) (SX_cons (SX_set (i := 7) rfl (SE_bin b_shr (SE_name (i := 1) rfl) (SE_bin b_sub (SE_name (i := 6) rfl) SE_int)))
  (SX_cons (SX_if (ST_bool (STs_and_cons (ST_val (SE_bin b_and (SE_name (i := 7) rfl) SE_int)) (STs_and_cons (ST_bool (STs_or_cons (ST_val (SE_bin b_and (SE_name (i := 7) rfl) SE_int)) (STs_or_cons (ST_val (SE_bin b_and (SE_name (i := 1) rfl) (SE_bin b_sub (SE_bin b_shl (SE_glob l_MPZ_ONE (g_MPZ_ONE hK) (fun _ _ _ _ => .int _ _)) (SE_bin b_sub (SE_name (i := 6) rfl) SE_int)) SE_int))) STs_or_nil))) STs_and_nil))) (SX_cons (SX_set (i := 1) rfl (SE_bin b_add (SE_bin b_shr (SE_name (i := 7) rfl) SE_int) SE_int))
  SX_nil)
  (SX_cons (SX_set (i := 1) rfl (SE_bin b_shr (SE_name (i := 7) rfl) SE_int))
  SX_nil))
  SX_nil))
  (SX_cons (SX_if (ST_val (SE_sub (SE_shifts hK l_shifts_down (SE_name (i := 5) rfl) (fun _ _ => rfl)) (SE_name (i := 0) rfl) (fun _ _ => rfl))) (SX_cons (SX_aug (i := 1) rfl i_shr (SE_name (i := 6) rfl))
  SX_nil)
  (SX_cons (SX_set (i := 1) rfl (SE_neg (SE_bin b_shr (SE_neg (SE_name (i := 1) rfl)) (SE_name (i := 6) rfl))))
  SX_nil))
  SX_nil))
  (SX_cons (SX_aug (i := 2) rfl i_add (SE_name (i := 6) rfl))
  (SX_cons (SX_set (i := 3) rfl (SE_name (i := 4) rfl))
  SX_nil)))
  SX_nil)
  (SX_cons (SX_if (ST_not (ST_val (SE_bin b_and (SE_name (i := 1) rfl) SE_int))) (SX_cons (SX_set (i := 7) rfl (SE_callR (n := 1) l_trailing (g_trailing hK) hK rfl hrk (SEs_cons (SE_name (i := 1) rfl) SEs_nil)))
  (SX_cons (SX_aug (i := 1) rfl i_shr (SE_name (i := 7) rfl))
  (SX_cons (SX_aug (i := 2) rfl i_add (SE_name (i := 7) rfl))
  (SX_cons (SX_aug (i := 3) rfl i_sub (SE_name (i := 7) rfl))
  SX_nil))))
  SX_nil)
  (SX_cons (SX_if (ST_cmp c_eq (SE_name (i := 1) rfl) SE_int rfl) (SX_cons (SX_set (i := 3) rfl SE_int)
  SX_nil)
  SX_nil)
  (SX_cons (SX_ret (SE_tup (SEs_cons (SE_name (i := 0) rfl) (SEs_cons (SE_name (i := 1) rfl) (SEs_cons (SE_name (i := 2) rfl) (SEs_cons (SE_name (i := 3) rfl) SEs_nil))))))
  SX_nil))))))

def q_normalize_2 (cx : Cx) : Tx := tSeq (tRet (tCall cx 2 73 (tCons (tName 0) (tCons (tName 1) (tCons (tName 2) (tCons (tName 3) (tCons (tName 4) (tCons (tName 5) tNil))))))))
  tSkip
def q_normalize_1 (cx : Cx) : Tx := tSeq (tAssert (tTest (tBin kGe (tName 1) (tInt 0))))
  (q_normalize_2 cx)
theorem s_normalize_1 {ρ σ P} (h : ∀ R : Tx, R = q_normalize_2 cx → tSeq (tAssert (tTest (tBin kGe (tName 1) (tInt 0)))) R ρ σ P) : q_normalize_1 cx ρ σ P := h _ rfl
def q_normalize (cx : Cx) : Tx := tSeq (tAssert (tTest (tBin kEq (tName 3) (tBl (tName 1)))))
  (q_normalize_1 cx)
theorem s_normalize {ρ σ P} (h : ∀ R : Tx, R = q_normalize_1 cx → tSeq (tAssert (tTest (tBin kEq (tName 3) (tBl (tName 1))))) R ρ σ P) : q_normalize cx ρ σ P := h _ rfl
abbrev ns_normalize : List Str := [Str.ofString "sign", Str.ofString "man", Str.ofString "exp", Str.ofString "bc", Str.ofString "prec", Str.ofString "rnd"]
theorem w_normalize (hK : KK cx) {args : List PyData} {out : Except Exn PyData} (hl : args.length = 6) (hvc : q_normalize cx (valSlots (args ++ []) 0) [] (callPost out)) : CallOK cx 80 2 args out := by
  refine call_ok (n := 0) (dfl := []) (tx := q_normalize cx) [Str.ofString "sign", Str.ofString "man", Str.ofString "exp", Str.ofString "bc", Str.ofString "prec", Str.ofString "rnd"] ns_normalize [] hK rfl (by kernel_rfl) (fun us s hu hk => ?_) (fun _ _ _ _ => Rds.nil) (by rw [List.length_append, hl]; rfl) (fun i x h => ?_) (by decide +kernel) (by decide +kernel) rfl rfl rfl (by decide) (fun fc hcs hrk => ?_) hvc
  · rw [hl] at hu
    obtain ⟨u0, u1, u2, u3, u4, u5, rfl⟩ := len_6 hu
    exact BindsTo.of_eq rfl
  · exact nth_sub (by decide +kernel) h
  · have l_normalize : fc.cs.names.lookup (Str.ofString "_normalize") = some .globalImplicit := by rw [hcs]; rfl
    exact (SX_cons (SX_assert (ST_cmp c_eq (SE_name (i := 3) rfl) (SE_bl (SE_name (i := 1) rfl) rfl rfl) rfl))
  (SX_cons (SX_assert (ST_cmp c_ge (SE_name (i := 1) rfl) SE_int rfl))
  (SX_cons (SX_ret (SE_callR (n := 2) l_normalize (g_norm0 hK) hK rfl hrk (SEs_cons (SE_name (i := 0) rfl) (SEs_cons (SE_name (i := 1) rfl) (SEs_cons (SE_name (i := 2) rfl) (SEs_cons (SE_name (i := 3) rfl) (SEs_cons (SE_name (i := 4) rfl) (SEs_cons (SE_name (i := 5) rfl) SEs_nil))))))))
  SX_nil)))

def q_from_man_exp_5 (cx : Cx) : Tx := tSeq (tRet (tCall cx 3 80 (tCons (tName 4) (tCons (tName 0) (tCons (tName 1) (tCons (tName 5) (tCons (tName 2) (tCons (tName 3) tNil))))))))
  tSkip
def q_from_man_exp_4 (cx : Cx) : Tx := tSeq (tIf (tNotT (tTruth (tName 2))) (tSeq (tIf (tNotT (tTruth (tName 0))) (tSeq (tRet (tGlob p_fzero))
  tSkip)
  tSkip)
  (tSeq (tIf (tNotT (tTruth (tBin kAnd (tName 0) (tInt 1)))) (tSeq (tIf (tTruth (tBin kAnd (tName 0) (tInt 2))) (tSeq (tRet (tTup (tCons (tName 4) (tCons (tBin kShr (tName 0) (tInt 1)) (tCons (tBin kAdd (tName 1) (tInt 1)) (tCons (tBin kSub (tName 5) (tInt 1)) tNil))))))
  tSkip)
  tSkip)
  (tSeq (tSet 6 (tCall cx 3 21 (tCons (tName 0) tNil)))
  (tSeq (tAug 0 kShr (tName 6))
  (tSeq (tAug 1 kAdd (tName 6))
  (tSeq (tAug 5 kSub (tName 6))
  tSkip)))))
  tSkip)
  (tSeq (tRet (tTup (tCons (tName 4) (tCons (tName 0) (tCons (tName 1) (tCons (tName 5) tNil))))))
  tSkip)))
  tSkip)
  (q_from_man_exp_5 cx)
theorem s_from_man_exp_4 {ρ σ P} (h : ∀ R : Tx, R = q_from_man_exp_5 cx → tSeq (tIf (tNotT (tTruth (tName 2))) (tSeq (tIf (tNotT (tTruth (tName 0))) (tSeq (tRet (tGlob p_fzero))
  tSkip)
  tSkip)
  (tSeq (tIf (tNotT (tTruth (tBin kAnd (tName 0) (tInt 1)))) (tSeq (tIf (tTruth (tBin kAnd (tName 0) (tInt 2))) (tSeq (tRet (tTup (tCons (tName 4) (tCons (tBin kShr (tName 0) (tInt 1)) (tCons (tBin kAdd (tName 1) (tInt 1)) (tCons (tBin kSub (tName 5) (tInt 1)) tNil))))))
  tSkip)
  tSkip)
  (tSeq (tSet 6 (tCall cx 3 21 (tCons (tName 0) tNil)))
  (tSeq (tAug 0 kShr (tName 6))
  (tSeq (tAug 1 kAdd (tName 6))
  (tSeq (tAug 5 kSub (tName 6))
  tSkip)))))
  tSkip)
  (tSeq (tRet (tTup (tCons (tName 4) (tCons (tName 0) (tCons (tName 1) (tCons (tName 5) tNil))))))
  tSkip)))
  tSkip) R ρ σ P) : q_from_man_exp_4 cx ρ σ P := h _ rfl
def q_from_man_exp_3 (cx : Cx) : Tx := tSeq (tSet 5 (tBl (tName 0)))
  (q_from_man_exp_4 cx)
theorem s_from_man_exp_3 {ρ σ P} (h : ∀ R : Tx, R = q_from_man_exp_4 cx → tSeq (tSet 5 (tBl (tName 0))) R ρ σ P) : q_from_man_exp_3 cx ρ σ P := h _ rfl
def q_from_man_exp_2 (cx : Cx) : Tx := tSeq (tIf (tTest (tBin kLt (tName 0) (tInt 0))) (tSeq (tSet 4 (tInt 1))
  (tSeq (tSet 0 (tNeg (tName 0)))
  tSkip))
  tSkip)
  (q_from_man_exp_3 cx)
theorem s_from_man_exp_2 {ρ σ P} (h : ∀ R : Tx, R = q_from_man_exp_3 cx → tSeq (tIf (tTest (tBin kLt (tName 0) (tInt 0))) (tSeq (tSet 4 (tInt 1))
  (tSeq (tSet 0 (tNeg (tName 0)))
  tSkip))
  tSkip) R ρ σ P) : q_from_man_exp_2 cx ρ σ P := h _ rfl
def q_from_man_exp_1 (cx : Cx) : Tx := tSeq (tSet 4 (tInt 0))
  (q_from_man_exp_2 cx)
theorem s_from_man_exp_1 {ρ σ P} (h : ∀ R : Tx, R = q_from_man_exp_2 cx → tSeq (tSet 4 (tInt 0)) R ρ σ P) : q_from_man_exp_1 cx ρ σ P := h _ rfl
def q_from_man_exp (cx : Cx) : Tx := tSeq (tIf (tNotT (tTruth (tIsInt (tName 0)))) (tSeq (fun _ _ _ => False)
  tSkip)
  tSkip)
  (q_from_man_exp_1 cx)
theorem s_from_man_exp {ρ σ P} (h : ∀ R : Tx, R = q_from_man_exp_1 cx → tSeq (tIf (tNotT (tTruth (tIsInt (tName 0)))) (tSeq (fun _ _ _ => False)
  tSkip)
  tSkip) R ρ σ P) : q_from_man_exp cx ρ σ P := h _ rfl
abbrev ns_from_man_exp : List Str := [Str.ofString "man", Str.ofString "exp", Str.ofString "prec", Str.ofString "rnd", Str.ofString "sign", Str.ofString "bc", Str.ofString "t"]
theorem w_from_man_exp4 (hK : KK cx) {args : List PyData} {out : Except Exn PyData} (hl : args.length = 4) (hvc : q_from_man_exp cx (valSlots (args ++ []) 3) [] (callPost out)) : CallOK cx 88 3 args out := by
  refine call_ok (n := 3) (dfl := []) (tx := q_from_man_exp cx) [Str.ofString "man", Str.ofString "exp", Str.ofString "prec", Str.ofString "rnd"] ns_from_man_exp [] hK rfl (by kernel_rfl) (fun us s hu hk => ?_) (fun _ _ _ _ => Rds.nil) (by rw [List.length_append, hl]; rfl) (fun i x h => ?_) (by decide +kernel) (by decide +kernel) rfl rfl rfl (by decide) (fun fc hcs hrk => ?_) hvc
  · rw [hl] at hu
    obtain ⟨u0, u1, u2, u3, rfl⟩ := len_4 hu
    exact binds_K (K := hd.heap_39 cx.w.params) (hK ▸ hk) rfl rfl rfl rfl rfl
  · exact nth_sub (by decide +kernel) h
  · have l_isinstance : fc.cs.names.lookup (Str.ofString "isinstance") = some .globalImplicit := by rw [hcs]; rfl
    have l_int : fc.cs.names.lookup (Str.ofString "int") = some .globalImplicit := by rw [hcs]; rfl
    have l_trailing : fc.cs.names.lookup (Str.ofString "trailing") = some .globalImplicit := by rw [hcs]; rfl
    have l_fzero : fc.cs.names.lookup (Str.ofString "fzero") = some .globalImplicit := by rw [hcs]; rfl
    have l_normalize : fc.cs.names.lookup (Str.ofString "normalize") = some .globalImplicit := by rw [hcs]; rfl
    exact (SX_cons (SX_if (ST_not (ST_val (SE_isint l_isinstance (n_isinstance hK) l_int (n_int hK) (SE_name (i := 0) rfl)))) (SX_cons SX1_false
  SX_nil)
  SX_nil)
  (SX_cons (SX_set (i := 4) rfl SE_int)
  (SX_cons (SX_if (ST_cmp c_lt (SE_name (i := 0) rfl) SE_int rfl) (SX_cons (SX_set (i := 4) rfl SE_int)
  (SX_cons (SX_set (i := 0) rfl (SE_neg (SE_name (i := 0) rfl)))
  SX_nil))
  SX_nil)
  (SX_cons (SX_set (i := 5) rfl (SE_bl (SE_name (i := 0) rfl) rfl rfl))
  (SX_cons (SX_if (ST_not (ST_val (SE_name (i := 2) rfl))) (SX_cons (SX_if (ST_not (ST_val (SE_name (i := 0) rfl))) (SX_cons (SX_ret (SE_glob l_fzero (g_fzero hK) (r_fzero hK)))
  SX_nil)
  SX_nil)
  (SX_cons (SX_if (ST_not (ST_val (SE_bin b_and (SE_name (i := 0) rfl) SE_int))) (SX_cons (SX_if (ST_val (SE_bin b_and (SE_name (i := 0) rfl) SE_int)) (SX_cons (SX_ret (SE_tup (SEs_cons (SE_name (i := 4) rfl) (SEs_cons (SE_bin b_shr (SE_name (i := 0) rfl) SE_int) (SEs_cons (SE_bin b_add (SE_name (i := 1) rfl) SE_int) (SEs_cons (SE_bin b_sub (SE_name (i := 5) rfl) SE_int) SEs_nil))))))
  SX_nil)
  SX_nil)
  (SX_cons (SX_set (i := 6) rfl (SE_callR (n := 3) l_trailing (g_trailing hK) hK rfl hrk (SEs_cons (SE_name (i := 0) rfl) SEs_nil)))
  (SX_cons (SX_aug (i := 0) rfl i_shr (SE_name (i := 6) rfl))
  (SX_cons (SX_aug (i := 1) rfl i_add (SE_name (i := 6) rfl))
  (SX_cons (SX_aug (i := 5) rfl i_sub (SE_name (i := 6) rfl))
  SX_nil)))))
  SX_nil)
  (SX_cons (SX_ret (SE_tup (SEs_cons (SE_name (i := 4) rfl) (SEs_cons (SE_name (i := 0) rfl) (SEs_cons (SE_name (i := 1) rfl) (SEs_cons (SE_name (i := 5) rfl) SEs_nil))))))
  SX_nil)))
  SX_nil)
  (SX_cons (SX_ret (SE_callR (n := 3) l_normalize (g_normalize hK) hK rfl hrk (SEs_cons (SE_name (i := 4) rfl) (SEs_cons (SE_name (i := 0) rfl) (SEs_cons (SE_name (i := 1) rfl) (SEs_cons (SE_name (i := 5) rfl) (SEs_cons (SE_name (i := 2) rfl) (SEs_cons (SE_name (i := 3) rfl) SEs_nil))))))))
  SX_nil))))))

def q_from_int (cx : Cx) : Tx := tSeq (tRet (tCall cx 4 88 (tCons (tB kInt (tCons (tName 0) tNil)) (tCons (tInt 0) (tCons (tName 1) (tCons (tName 2) tNil))))))
  tSkip
abbrev ns_from_int : List Str := [Str.ofString "n", Str.ofString "prec", Str.ofString "rnd"]
theorem w_from_int1 (hK : KK cx) {args : List PyData} {out : Except Exn PyData} (hl : args.length = 1) (hvc : q_from_int cx (valSlots (args ++ [(.int 0 : PyData), (.str (Str.ofString "d") : PyData)]) 0) [] (callPost out)) : CallOK cx 96 4 args out := by
  refine call_ok (n := 0) (dfl := [(.int 0 : PyData), (.str (Str.ofString "d") : PyData)]) (tx := q_from_int cx) [Str.ofString "n", Str.ofString "prec", Str.ofString "rnd"] ns_from_int [.int 0 338, .str (Str.ofString "d") 252] hK rfl (by kernel_rfl) (fun us s hu hk => ?_) (fun _ _ _ _ => (.cons (.int _ _) (.cons (.str _ _) (.nil)))) (by rw [List.length_append, hl]; rfl) (fun i x h => ?_) (by decide +kernel) (by decide +kernel) rfl rfl rfl (by decide) (fun fc hcs hrk => ?_) hvc
  · rw [hl] at hu
    obtain ⟨u0, rfl⟩ := len_1 hu
    exact binds_K (K := hd.heap_39 cx.w.params) (hK ▸ hk) rfl rfl rfl rfl rfl
  · exact nth_sub (by decide +kernel) h
  · have l_int : fc.cs.names.lookup (Str.ofString "int") = some .globalImplicit := by rw [hcs]; rfl
    have l_from_man_exp : fc.cs.names.lookup (Str.ofString "from_man_exp") = some .globalImplicit := by rw [hcs]; rfl
    exact (SX_cons (SX_ret (SE_callR (n := 4) l_from_man_exp (g_from_man_exp hK) hK rfl hrk (SEs_cons (SE_tcall l_int (n_int hK) Boot.«int» bc_int (SEs_cons (SE_name (i := 0) rfl) SEs_nil)) (SEs_cons SE_int (SEs_cons (SE_name (i := 1) rfl) (SEs_cons (SE_name (i := 2) rfl) SEs_nil))))))
  SX_nil)

def q_mpf_round_int_5 (cx : Cx) : Tx := tSeq (tRet (tCall cx 4 199 (tCons (tName 0) (tCons (tB kMin (tCons (tName 5) (tCons (tName 6) tNil))) (tCons (tName 1) tNil)))))
  tSkip
def q_mpf_round_int_4 (cx : Cx) : Tx := tSeq (tIf (tTest (tBin kLt (tName 6) (tInt 1))) (tSeq (tIf (tTest (tBin kEq (tName 1) (tGlob (.str (Str.ofString "c"))))) (tSeq (tIf (tTruth (tName 2)) (tSeq (tRet (tGlob p_fzero))
  tSkip)
  (tSeq (tRet (tGlob p_fone))
  tSkip))
  tSkip)
  (tSeq (tIf (tTest (tBin kEq (tName 1) (tGlob (.str (Str.ofString "f"))))) (tSeq (tIf (tTruth (tName 2)) (tSeq (tRet (tGlob p_fnone))
  tSkip)
  (tSeq (tRet (tGlob p_fzero))
  tSkip))
  tSkip)
  (tSeq (tIf (tTest (tBin kEq (tName 1) (tGlob (.str (Str.ofString "n"))))) (tSeq (tIf (tOrT (tTest (tBin kLt (tName 6) (tInt 0))) (tOrT (tTest (tBin kEq (tName 3) (tGlob (.int 1)))) tFalse)) (tSeq (tRet (tGlob p_fzero))
  tSkip)
  (tSeq (tIf (tTruth (tName 2)) (tSeq (tRet (tGlob p_fnone))
  tSkip)
  (tSeq (tRet (tGlob p_fone))
  tSkip))
  tSkip))
  tSkip)
  (tSeq (fun _ _ _ => False)
  tSkip))
  tSkip))
  tSkip))
  tSkip)
  tSkip)
  (q_mpf_round_int_5 cx)
theorem s_mpf_round_int_4 {ρ σ P} (h : ∀ R : Tx, R = q_mpf_round_int_5 cx → tSeq (tIf (tTest (tBin kLt (tName 6) (tInt 1))) (tSeq (tIf (tTest (tBin kEq (tName 1) (tGlob (.str (Str.ofString "c"))))) (tSeq (tIf (tTruth (tName 2)) (tSeq (tRet (tGlob p_fzero))
  tSkip)
  (tSeq (tRet (tGlob p_fone))
  tSkip))
  tSkip)
  (tSeq (tIf (tTest (tBin kEq (tName 1) (tGlob (.str (Str.ofString "f"))))) (tSeq (tIf (tTruth (tName 2)) (tSeq (tRet (tGlob p_fnone))
  tSkip)
  (tSeq (tRet (tGlob p_fzero))
  tSkip))
  tSkip)
  (tSeq (tIf (tTest (tBin kEq (tName 1) (tGlob (.str (Str.ofString "n"))))) (tSeq (tIf (tOrT (tTest (tBin kLt (tName 6) (tInt 0))) (tOrT (tTest (tBin kEq (tName 3) (tGlob (.int 1)))) tFalse)) (tSeq (tRet (tGlob p_fzero))
  tSkip)
  (tSeq (tIf (tTruth (tName 2)) (tSeq (tRet (tGlob p_fnone))
  tSkip)
  (tSeq (tRet (tGlob p_fone))
  tSkip))
  tSkip))
  tSkip)
  (tSeq (fun _ _ _ => False)
  tSkip))
  tSkip))
  tSkip))
  tSkip)
  tSkip) R ρ σ P) : q_mpf_round_int_4 cx ρ σ P := h _ rfl
def q_mpf_round_int_3 (cx : Cx) : Tx := tSeq (tSet 6 (tBin kAdd (tName 4) (tName 5)))
  (q_mpf_round_int_4 cx)
theorem s_mpf_round_int_3 {ρ σ P} (h : ∀ R : Tx, R = q_mpf_round_int_4 cx → tSeq (tSet 6 (tBin kAdd (tName 4) (tName 5))) R ρ σ P) : q_mpf_round_int_3 cx ρ σ P := h _ rfl
def q_mpf_round_int_2 (cx : Cx) : Tx := tSeq (tIf (tTest (tBin kGe (tName 4) (tInt 0))) (tSeq (tRet (tName 0))
  tSkip)
  tSkip)
  (q_mpf_round_int_3 cx)
theorem s_mpf_round_int_2 {ρ σ P} (h : ∀ R : Tx, R = q_mpf_round_int_3 cx → tSeq (tIf (tTest (tBin kGe (tName 4) (tInt 0))) (tSeq (tRet (tName 0))
  tSkip)
  tSkip) R ρ σ P) : q_mpf_round_int_2 cx ρ σ P := h _ rfl
def q_mpf_round_int_1 (cx : Cx) : Tx := tSeq (tIf (tAndT (tNotT (tTruth (tName 3))) (tAndT (tTruth (tName 4)) tTrue)) (tSeq (tRet (tName 0))
  tSkip)
  tSkip)
  (q_mpf_round_int_2 cx)
theorem s_mpf_round_int_1 {ρ σ P} (h : ∀ R : Tx, R = q_mpf_round_int_2 cx → tSeq (tIf (tAndT (tNotT (tTruth (tName 3))) (tAndT (tTruth (tName 4)) tTrue)) (tSeq (tRet (tName 0))
  tSkip)
  tSkip) R ρ σ P) : q_mpf_round_int_1 cx ρ σ P := h _ rfl
def q_mpf_round_int (cx : Cx) : Tx := tSeq (tUnpack [2, 3, 4, 5] (tName 0))
  (q_mpf_round_int_1 cx)
theorem s_mpf_round_int {ρ σ P} (h : ∀ R : Tx, R = q_mpf_round_int_1 cx → tSeq (tUnpack [2, 3, 4, 5] (tName 0)) R ρ σ P) : q_mpf_round_int cx ρ σ P := h _ rfl
abbrev ns_mpf_round_int : List Str := [Str.ofString "s", Str.ofString "rnd", Str.ofString "sign", Str.ofString "man", Str.ofString "exp", Str.ofString "bc", Str.ofString "mag"]
theorem w_mpf_round_int (hK : KK cx) {args : List PyData} {out : Except Exn PyData} (hl : args.length = 2) (hvc : q_mpf_round_int cx (valSlots (args ++ []) 5) [] (callPost out)) : CallOK cx 103 4 args out := by
  refine call_ok (n := 5) (dfl := []) (tx := q_mpf_round_int cx) [Str.ofString "s", Str.ofString "rnd"] ns_mpf_round_int [] hK rfl (by kernel_rfl) (fun us s hu hk => ?_) (fun _ _ _ _ => Rds.nil) (by rw [List.length_append, hl]; rfl) (fun i x h => ?_) (by decide +kernel) (by decide +kernel) rfl rfl rfl (by decide) (fun fc hcs hrk => ?_) hvc
  · rw [hl] at hu
    obtain ⟨u0, u1, rfl⟩ := len_2 hu
    exact BindsTo.of_eq rfl
  · exact nth_sub (by decide +kernel) h
  · have l_round_ceiling : fc.cs.names.lookup (Str.ofString "round_ceiling") = some .globalImplicit := by rw [hcs]; rfl
    have l_fzero : fc.cs.names.lookup (Str.ofString "fzero") = some .globalImplicit := by rw [hcs]; rfl
    have l_fone : fc.cs.names.lookup (Str.ofString "fone") = some .globalImplicit := by rw [hcs]; rfl
    have l_round_floor : fc.cs.names.lookup (Str.ofString "round_floor") = some .globalImplicit := by rw [hcs]; rfl
    have l_fnone : fc.cs.names.lookup (Str.ofString "fnone") = some .globalImplicit := by rw [hcs]; rfl
    have l_round_nearest : fc.cs.names.lookup (Str.ofString "round_nearest") = some .globalImplicit := by rw [hcs]; rfl
    have l_MPZ_ONE : fc.cs.names.lookup (Str.ofString "MPZ_ONE") = some .globalImplicit := by rw [hcs]; rfl
    have l_min : fc.cs.names.lookup (Str.ofString "min") = some .globalImplicit := by rw [hcs]; rfl
    have l_mpf_pos : fc.cs.names.lookup (Str.ofString "mpf_pos") = some .globalImplicit := by rw [hcs]; rfl
    exact (SX_cons (SX_unpack (xs := [Str.ofString "sign", Str.ofString "man", Str.ofString "exp", Str.ofString "bc"]) (SE_name (i := 0) rfl) rfl (NameElts.cons (NameElts.cons (NameElts.cons (NameElts.cons NameElts.nil)))) rfl rfl)
  (SX_cons (SX_if (ST_bool (STs_and_cons (ST_not (ST_val (SE_name (i := 3) rfl))) (STs_and_cons (ST_val (SE_name (i := 4) rfl)) STs_and_nil))) (SX_cons (SX_ret (SE_name (i := 0) rfl))
  SX_nil)
  SX_nil)
  (SX_cons (SX_if (ST_cmp c_ge (SE_name (i := 4) rfl) SE_int rfl) (SX_cons (SX_ret (SE_name (i := 0) rfl))
  SX_nil)
  SX_nil)
  (SX_cons (SX_set (i := 6) rfl (SE_bin b_add (SE_name (i := 4) rfl) (SE_name (i := 5) rfl)))
  (SX_cons (SX_if (ST_cmp c_lt (SE_name (i := 6) rfl) SE_int rfl) (SX_cons (SX_if (ST_cmp c_eq (SE_name (i := 1) rfl) (SE_glob l_round_ceiling (g_round_ceiling hK) (fun _ _ _ _ => .str _ _)) rfl) (SX_cons (SX_if (ST_val (SE_name (i := 2) rfl)) (SX_cons (SX_ret (SE_glob l_fzero (g_fzero hK) (r_fzero hK)))
  SX_nil)
  (SX_cons (SX_ret (SE_glob l_fone (g_fone hK) (r_fone hK)))
  SX_nil))
  SX_nil)
  (SX_cons (SX_if (ST_cmp c_eq (SE_name (i := 1) rfl) (SE_glob l_round_floor (g_round_floor hK) (fun _ _ _ _ => .str _ _)) rfl) (SX_cons (SX_if (ST_val (SE_name (i := 2) rfl)) (SX_cons (SX_ret (SE_glob l_fnone (g_fnone hK) (r_fnone hK)))
  SX_nil)
  (SX_cons (SX_ret (SE_glob l_fzero (g_fzero hK) (r_fzero hK)))
  SX_nil))
  SX_nil)
  (SX_cons (SX_if (ST_cmp c_eq (SE_name (i := 1) rfl) (SE_glob l_round_nearest (g_round_nearest hK) (fun _ _ _ _ => .str _ _)) rfl) (SX_cons (SX_if (ST_bool (STs_or_cons (ST_cmp c_lt (SE_name (i := 6) rfl) SE_int rfl) (STs_or_cons (ST_cmp c_eq (SE_name (i := 3) rfl) (SE_glob l_MPZ_ONE (g_MPZ_ONE hK) (fun _ _ _ _ => .int _ _)) rfl) STs_or_nil))) (SX_cons (SX_ret (SE_glob l_fzero (g_fzero hK) (r_fzero hK)))
  SX_nil)
  (SX_cons (SX_if (ST_val (SE_name (i := 2) rfl)) (SX_cons (SX_ret (SE_glob l_fnone (g_fnone hK) (r_fnone hK)))
  SX_nil)
  (SX_cons (SX_ret (SE_glob l_fone (g_fone hK) (r_fone hK)))
  SX_nil))
  SX_nil))
  SX_nil)
  (SX_cons SX1_false
  SX_nil))
  SX_nil))
  SX_nil))
  SX_nil)
  SX_nil)
  (SX_cons (SX_ret (SE_callR (n := 4) l_mpf_pos (g_mpf_pos hK) hK rfl hrk (SEs_cons (SE_name (i := 0) rfl) (SEs_cons (SE_bcall l_min (n_min hK) Boot.«min» bc_min (SEs_cons (SE_name (i := 5) rfl) (SEs_cons (SE_name (i := 6) rfl) SEs_nil))) (SEs_cons (SE_name (i := 1) rfl) SEs_nil)))))
  SX_nil))))))

def q_mpf_floor_2 (cx : Cx) : Tx := tSeq (tRet (tName 3))
  tSkip
def q_mpf_floor_1 (cx : Cx) : Tx := tSeq (tIf (tTruth (tName 1)) (tSeq (tSet 3 (tCall cx 5 199 (tCons (tName 3) (tCons (tName 1) (tCons (tName 2) tNil)))))
  tSkip)
  tSkip)
  (q_mpf_floor_2 cx)
theorem s_mpf_floor_1 {ρ σ P} (h : ∀ R : Tx, R = q_mpf_floor_2 cx → tSeq (tIf (tTruth (tName 1)) (tSeq (tSet 3 (tCall cx 5 199 (tCons (tName 3) (tCons (tName 1) (tCons (tName 2) tNil)))))
  tSkip)
  tSkip) R ρ σ P) : q_mpf_floor_1 cx ρ σ P := h _ rfl
def q_mpf_floor (cx : Cx) : Tx := tSeq (tSet 3 (tCall cx 5 103 (tCons (tName 0) (tCons (tGlob (.str (Str.ofString "f"))) tNil))))
  (q_mpf_floor_1 cx)
theorem s_mpf_floor {ρ σ P} (h : ∀ R : Tx, R = q_mpf_floor_1 cx → tSeq (tSet 3 (tCall cx 5 103 (tCons (tName 0) (tCons (tGlob (.str (Str.ofString "f"))) tNil)))) R ρ σ P) : q_mpf_floor cx ρ σ P := h _ rfl
abbrev ns_mpf_floor : List Str := [Str.ofString "s", Str.ofString "prec", Str.ofString "rnd", Str.ofString "v"]
theorem w_mpf_floor1 (hK : KK cx) {args : List PyData} {out : Except Exn PyData} (hl : args.length = 1) (hvc : q_mpf_floor cx (valSlots (args ++ [(.int 0 : PyData), (.str (Str.ofString "d") : PyData)]) 1) [] (callPost out)) : CallOK cx 111 5 args out := by
  refine call_ok (n := 1) (dfl := [(.int 0 : PyData), (.str (Str.ofString "d") : PyData)]) (tx := q_mpf_floor cx) [Str.ofString "s", Str.ofString "prec", Str.ofString "rnd"] ns_mpf_floor [.int 0 361, .str (Str.ofString "d") 252] hK rfl (by kernel_rfl) (fun us s hu hk => ?_) (fun _ _ _ _ => (.cons (.int _ _) (.cons (.str _ _) (.nil)))) (by rw [List.length_append, hl]; rfl) (fun i x h => ?_) (by decide +kernel) (by decide +kernel) rfl rfl rfl (by decide) (fun fc hcs hrk => ?_) hvc
  · rw [hl] at hu
    obtain ⟨u0, rfl⟩ := len_1 hu
    exact binds_K (K := hd.heap_39 cx.w.params) (hK ▸ hk) rfl rfl rfl rfl rfl
  · exact nth_sub (by decide +kernel) h
  · have l_round_floor : fc.cs.names.lookup (Str.ofString "round_floor") = some .globalImplicit := by rw [hcs]; rfl
    have l_mpf_round_int : fc.cs.names.lookup (Str.ofString "mpf_round_int") = some .globalImplicit := by rw [hcs]; rfl
    have l_mpf_pos : fc.cs.names.lookup (Str.ofString "mpf_pos") = some .globalImplicit := by rw [hcs]; rfl
    exact (SX_cons (SX_set (i := 3) rfl (SE_callR (n := 5) l_mpf_round_int (g_mpf_round_int hK) hK rfl hrk (SEs_cons (SE_name (i := 0) rfl) (SEs_cons (SE_glob l_round_floor (g_round_floor hK) (fun _ _ _ _ => .str _ _)) SEs_nil))))
  (SX_cons (SX_if (ST_val (SE_name (i := 1) rfl)) (SX_cons (SX_set (i := 3) rfl (SE_callR (n := 5) l_mpf_pos (g_mpf_pos hK) hK rfl hrk (SEs_cons (SE_name (i := 3) rfl) (SEs_cons (SE_name (i := 1) rfl) (SEs_cons (SE_name (i := 2) rfl) SEs_nil)))))
  SX_nil)
  SX_nil)
  (SX_cons (SX_ret (SE_name (i := 3) rfl))
  SX_nil)))
theorem w_mpf_floor3 (hK : KK cx) {args : List PyData} {out : Except Exn PyData} (hl : args.length = 3) (hvc : q_mpf_floor cx (valSlots (args ++ []) 1) [] (callPost out)) : CallOK cx 111 5 args out := by
  refine call_ok (n := 1) (dfl := []) (tx := q_mpf_floor cx) [Str.ofString "s", Str.ofString "prec", Str.ofString "rnd"] ns_mpf_floor [] hK rfl (by kernel_rfl) (fun us s hu hk => ?_) (fun _ _ _ _ => Rds.nil) (by rw [List.length_append, hl]; rfl) (fun i x h => ?_) (by decide +kernel) (by decide +kernel) rfl rfl rfl (by decide) (fun fc hcs hrk => ?_) hvc
  · rw [hl] at hu
    obtain ⟨u0, u1, u2, rfl⟩ := len_3 hu
    exact binds_K (K := hd.heap_39 cx.w.params) (hK ▸ hk) rfl rfl rfl rfl rfl
  · exact nth_sub (by decide +kernel) h
  · have l_round_floor : fc.cs.names.lookup (Str.ofString "round_floor") = some .globalImplicit := by rw [hcs]; rfl
    have l_mpf_round_int : fc.cs.names.lookup (Str.ofString "mpf_round_int") = some .globalImplicit := by rw [hcs]; rfl
    have l_mpf_pos : fc.cs.names.lookup (Str.ofString "mpf_pos") = some .globalImplicit := by rw [hcs]; rfl
    exact (SX_cons (SX_set (i := 3) rfl (SE_callR (n := 5) l_mpf_round_int (g_mpf_round_int hK) hK rfl hrk (SEs_cons (SE_name (i := 0) rfl) (SEs_cons (SE_glob l_round_floor (g_round_floor hK) (fun _ _ _ _ => .str _ _)) SEs_nil))))
  (SX_cons (SX_if (ST_val (SE_name (i := 1) rfl)) (SX_cons (SX_set (i := 3) rfl (SE_callR (n := 5) l_mpf_pos (g_mpf_pos hK) hK rfl hrk (SEs_cons (SE_name (i := 3) rfl) (SEs_cons (SE_name (i := 1) rfl) (SEs_cons (SE_name (i := 2) rfl) SEs_nil)))))
  SX_nil)
  SX_nil)
  (SX_cons (SX_ret (SE_name (i := 3) rfl))
  SX_nil)))

def q_mpf_ceil_2 (cx : Cx) : Tx := tSeq (tRet (tName 3))
  tSkip
def q_mpf_ceil_1 (cx : Cx) : Tx := tSeq (tIf (tTruth (tName 1)) (tSeq (tSet 3 (tCall cx 5 199 (tCons (tName 3) (tCons (tName 1) (tCons (tName 2) tNil)))))
  tSkip)
  tSkip)
  (q_mpf_ceil_2 cx)
theorem s_mpf_ceil_1 {ρ σ P} (h : ∀ R : Tx, R = q_mpf_ceil_2 cx → tSeq (tIf (tTruth (tName 1)) (tSeq (tSet 3 (tCall cx 5 199 (tCons (tName 3) (tCons (tName 1) (tCons (tName 2) tNil)))))
  tSkip)
  tSkip) R ρ σ P) : q_mpf_ceil_1 cx ρ σ P := h _ rfl
def q_mpf_ceil (cx : Cx) : Tx := tSeq (tSet 3 (tCall cx 5 103 (tCons (tName 0) (tCons (tGlob (.str (Str.ofString "c"))) tNil))))
  (q_mpf_ceil_1 cx)
theorem s_mpf_ceil {ρ σ P} (h : ∀ R : Tx, R = q_mpf_ceil_1 cx → tSeq (tSet 3 (tCall cx 5 103 (tCons (tName 0) (tCons (tGlob (.str (Str.ofString "c"))) tNil)))) R ρ σ P) : q_mpf_ceil cx ρ σ P := h _ rfl
abbrev ns_mpf_ceil : List Str := [Str.ofString "s", Str.ofString "prec", Str.ofString "rnd", Str.ofString "v"]
theorem w_mpf_ceil3 (hK : KK cx) {args : List PyData} {out : Except Exn PyData} (hl : args.length = 3) (hvc : q_mpf_ceil cx (valSlots (args ++ []) 1) [] (callPost out)) : CallOK cx 119 5 args out := by
  refine call_ok (n := 1) (dfl := []) (tx := q_mpf_ceil cx) [Str.ofString "s", Str.ofString "prec", Str.ofString "rnd"] ns_mpf_ceil [] hK rfl (by kernel_rfl) (fun us s hu hk => ?_) (fun _ _ _ _ => Rds.nil) (by rw [List.length_append, hl]; rfl) (fun i x h => ?_) (by decide +kernel) (by decide +kernel) rfl rfl rfl (by decide) (fun fc hcs hrk => ?_) hvc
  · rw [hl] at hu
    obtain ⟨u0, u1, u2, rfl⟩ := len_3 hu
    exact binds_K (K := hd.heap_39 cx.w.params) (hK ▸ hk) rfl rfl rfl rfl rfl
  · exact nth_sub (by decide +kernel) h
  · have l_round_ceiling : fc.cs.names.lookup (Str.ofString "round_ceiling") = some .globalImplicit := by rw [hcs]; rfl
    have l_mpf_round_int : fc.cs.names.lookup (Str.ofString "mpf_round_int") = some .globalImplicit := by rw [hcs]; rfl
    have l_mpf_pos : fc.cs.names.lookup (Str.ofString "mpf_pos") = some .globalImplicit := by rw [hcs]; rfl
    exact (SX_cons (SX_set (i := 3) rfl (SE_callR (n := 5) l_mpf_round_int (g_mpf_round_int hK) hK rfl hrk (SEs_cons (SE_name (i := 0) rfl) (SEs_cons (SE_glob l_round_ceiling (g_round_ceiling hK) (fun _ _ _ _ => .str _ _)) SEs_nil))))
  (SX_cons (SX_if (ST_val (SE_name (i := 1) rfl)) (SX_cons (SX_set (i := 3) rfl (SE_callR (n := 5) l_mpf_pos (g_mpf_pos hK) hK rfl hrk (SEs_cons (SE_name (i := 3) rfl) (SEs_cons (SE_name (i := 1) rfl) (SEs_cons (SE_name (i := 2) rfl) SEs_nil)))))
  SX_nil)
  SX_nil)
  (SX_cons (SX_ret (SE_name (i := 3) rfl))
  SX_nil)))

def q_mpf_nint_2 (cx : Cx) : Tx := tSeq (tRet (tName 3))
  tSkip
def q_mpf_nint_1 (cx : Cx) : Tx := tSeq (tIf (tTruth (tName 1)) (tSeq (tSet 3 (tCall cx 5 199 (tCons (tName 3) (tCons (tName 1) (tCons (tName 2) tNil)))))
  tSkip)
  tSkip)
  (q_mpf_nint_2 cx)
theorem s_mpf_nint_1 {ρ σ P} (h : ∀ R : Tx, R = q_mpf_nint_2 cx → tSeq (tIf (tTruth (tName 1)) (tSeq (tSet 3 (tCall cx 5 199 (tCons (tName 3) (tCons (tName 1) (tCons (tName 2) tNil)))))
  tSkip)
  tSkip) R ρ σ P) : q_mpf_nint_1 cx ρ σ P := h _ rfl
def q_mpf_nint (cx : Cx) : Tx := tSeq (tSet 3 (tCall cx 5 103 (tCons (tName 0) (tCons (tGlob (.str (Str.ofString "n"))) tNil))))
  (q_mpf_nint_1 cx)
theorem s_mpf_nint {ρ σ P} (h : ∀ R : Tx, R = q_mpf_nint_1 cx → tSeq (tSet 3 (tCall cx 5 103 (tCons (tName 0) (tCons (tGlob (.str (Str.ofString "n"))) tNil)))) R ρ σ P) : q_mpf_nint cx ρ σ P := h _ rfl
abbrev ns_mpf_nint : List Str := [Str.ofString "s", Str.ofString "prec", Str.ofString "rnd", Str.ofString "v"]
theorem w_mpf_nint3 (hK : KK cx) {args : List PyData} {out : Except Exn PyData} (hl : args.length = 3) (hvc : q_mpf_nint cx (valSlots (args ++ []) 1) [] (callPost out)) : CallOK cx 127 5 args out := by
  refine call_ok (n := 1) (dfl := []) (tx := q_mpf_nint cx) [Str.ofString "s", Str.ofString "prec", Str.ofString "rnd"] ns_mpf_nint [] hK rfl (by kernel_rfl) (fun us s hu hk => ?_) (fun _ _ _ _ => Rds.nil) (by rw [List.length_append, hl]; rfl) (fun i x h => ?_) (by decide +kernel) (by decide +kernel) rfl rfl rfl (by decide) (fun fc hcs hrk => ?_) hvc
  · rw [hl] at hu
    obtain ⟨u0, u1, u2, rfl⟩ := len_3 hu
    exact binds_K (K := hd.heap_39 cx.w.params) (hK ▸ hk) rfl rfl rfl rfl rfl
  · exact nth_sub (by decide +kernel) h
  · have l_round_nearest : fc.cs.names.lookup (Str.ofString "round_nearest") = some .globalImplicit := by rw [hcs]; rfl
    have l_mpf_round_int : fc.cs.names.lookup (Str.ofString "mpf_round_int") = some .globalImplicit := by rw [hcs]; rfl
    have l_mpf_pos : fc.cs.names.lookup (Str.ofString "mpf_pos") = some .globalImplicit := by rw [hcs]; rfl
    exact (SX_cons (SX_set (i := 3) rfl (SE_callR (n := 5) l_mpf_round_int (g_mpf_round_int hK) hK rfl hrk (SEs_cons (SE_name (i := 0) rfl) (SEs_cons (SE_glob l_round_nearest (g_round_nearest hK) (fun _ _ _ _ => .str _ _)) SEs_nil))))
  (SX_cons (SX_if (ST_val (SE_name (i := 1) rfl)) (SX_cons (SX_set (i := 3) rfl (SE_callR (n := 5) l_mpf_pos (g_mpf_pos hK) hK rfl hrk (SEs_cons (SE_name (i := 3) rfl) (SEs_cons (SE_name (i := 1) rfl) (SEs_cons (SE_name (i := 2) rfl) SEs_nil)))))
  SX_nil)
  SX_nil)
  (SX_cons (SX_ret (SE_name (i := 3) rfl))
  SX_nil)))

def q_mpf_frac (cx : Cx) : Tx := tSeq (tRet (tCall cx 6 238 (tCons (tName 0) (tCons (tCall cx 6 111 (tCons (tName 0) tNil)) (tCons (tName 1) (tCons (tName 2) tNil))))))
  tSkip
abbrev ns_mpf_frac : List Str := [Str.ofString "s", Str.ofString "prec", Str.ofString "rnd"]
theorem w_mpf_frac3 (hK : KK cx) {args : List PyData} {out : Except Exn PyData} (hl : args.length = 3) (hvc : q_mpf_frac cx (valSlots (args ++ []) 0) [] (callPost out)) : CallOK cx 135 6 args out := by
  refine call_ok (n := 0) (dfl := []) (tx := q_mpf_frac cx) [Str.ofString "s", Str.ofString "prec", Str.ofString "rnd"] ns_mpf_frac [] hK rfl (by kernel_rfl) (fun us s hu hk => ?_) (fun _ _ _ _ => Rds.nil) (by rw [List.length_append, hl]; rfl) (fun i x h => ?_) (by decide +kernel) (by decide +kernel) rfl rfl rfl (by decide) (fun fc hcs hrk => ?_) hvc
  · rw [hl] at hu
    obtain ⟨u0, u1, u2, rfl⟩ := len_3 hu
    exact binds_K (K := hd.heap_39 cx.w.params) (hK ▸ hk) rfl rfl rfl rfl rfl
  · exact nth_sub (by decide +kernel) h
  · have l_mpf_floor : fc.cs.names.lookup (Str.ofString "mpf_floor") = some .globalImplicit := by rw [hcs]; rfl
    have l_mpf_sub : fc.cs.names.lookup (Str.ofString "mpf_sub") = some .globalImplicit := by rw [hcs]; rfl
    exact (SX_cons (SX_ret (SE_callR (n := 6) l_mpf_sub (g_mpf_sub hK) hK rfl hrk (SEs_cons (SE_name (i := 0) rfl) (SEs_cons (SE_callR (n := 6) l_mpf_floor (g_mpf_floor hK) hK rfl hrk (SEs_cons (SE_name (i := 0) rfl) SEs_nil)) (SEs_cons (SE_name (i := 1) rfl) (SEs_cons (SE_name (i := 2) rfl) SEs_nil))))))
  SX_nil)

def q_to_rational_4 (cx : Cx) : Tx := tSeq (tIf (tTest (tBin kGe (tName 3) (tInt 0))) (tSeq (tRet (tTup (tCons (tBin kMul (tName 2) (tBin kShl (tInt 1) (tName 3))) (tCons (tB kInt (tCons (tInt 1) tNil)) tNil))))
  tSkip)
  (tSeq (tRet (tTup (tCons (tName 2) (tCons (tBin kShl (tB kInt (tCons (tInt 1) tNil)) (tNeg (tName 3))) tNil))))
  tSkip))
  tSkip
def q_to_rational_3 (cx : Cx) : Tx := tSeq (tIf (tTruth (tName 1)) (tSeq (tSet 2 (tNeg (tName 2)))
  tSkip)
  tSkip)
  (q_to_rational_4 cx)
theorem s_to_rational_3 {ρ σ P} (h : ∀ R : Tx, R = q_to_rational_4 cx → tSeq (tIf (tTruth (tName 1)) (tSeq (tSet 2 (tNeg (tName 2)))
  tSkip)
  tSkip) R ρ σ P) : q_to_rational_3 cx ρ σ P := h _ rfl
def q_to_rational_2 (cx : Cx) : Tx := tSeq (tUnpack [1, 2, 3, 4] (tName 0))
  (q_to_rational_3 cx)
theorem s_to_rational_2 {ρ σ P} (h : ∀ R : Tx, R = q_to_rational_3 cx → tSeq (tUnpack [1, 2, 3, 4] (tName 0)) R ρ σ P) : q_to_rational_2 cx ρ σ P := h _ rfl
def q_to_rational_1 (cx : Cx) : Tx := tSeq (tIf (tTest (tBin kInTup (tName 0) (tTup (tCons (tGlob p_finf) (tCons (tGlob p_fninf) tNil))))) (tSeq (fun _ _ _ => False)
  tSkip)
  tSkip)
  (q_to_rational_2 cx)
theorem s_to_rational_1 {ρ σ P} (h : ∀ R : Tx, R = q_to_rational_2 cx → tSeq (tIf (tTest (tBin kInTup (tName 0) (tTup (tCons (tGlob p_finf) (tCons (tGlob p_fninf) tNil))))) (tSeq (fun _ _ _ => False)
  tSkip)
  tSkip) R ρ σ P) : q_to_rational_1 cx ρ σ P := h _ rfl
def q_to_rational (cx : Cx) : Tx := tSeq (tIf (tTest (tBin kEq (tName 0) (tGlob p_fnan))) (tSeq (fun _ _ _ => False)
  tSkip)
  tSkip)
  (q_to_rational_1 cx)
theorem s_to_rational {ρ σ P} (h : ∀ R : Tx, R = q_to_rational_1 cx → tSeq (tIf (tTest (tBin kEq (tName 0) (tGlob p_fnan))) (tSeq (fun _ _ _ => False)
  tSkip)
  tSkip) R ρ σ P) : q_to_rational cx ρ σ P := h _ rfl
abbrev ns_to_rational : List Str := [Str.ofString "s", Str.ofString "sign", Str.ofString "man", Str.ofString "exp", Str.ofString "bc"]
theorem w_to_rational (hK : KK cx) {args : List PyData} {out : Except Exn PyData} (hl : args.length = 1) (hvc : q_to_rational cx (valSlots (args ++ []) 4) [] (callPost out)) : CallOK cx 142 0 args out := by
  refine call_ok (n := 4) (dfl := []) (tx := q_to_rational cx) [Str.ofString "s"] ns_to_rational [] hK rfl (by kernel_rfl) (fun us s hu hk => ?_) (fun _ _ _ _ => Rds.nil) (by rw [List.length_append, hl]; rfl) (fun i x h => ?_) (by decide +kernel) (by decide +kernel) rfl rfl rfl (by decide) (fun fc hcs hrk => ?_) hvc
  · rw [hl] at hu
    obtain ⟨u0, rfl⟩ := len_1 hu
    exact BindsTo.of_eq rfl
  · exact nth_sub (by decide +kernel) h
  · have l_fnan : fc.cs.names.lookup (Str.ofString "fnan") = some .globalImplicit := by rw [hcs]; rfl
    have l_fninf : fc.cs.names.lookup (Str.ofString "fninf") = some .globalImplicit := by rw [hcs]; rfl
    have l_finf : fc.cs.names.lookup (Str.ofString "finf") = some .globalImplicit := by rw [hcs]; rfl
    have l_int : fc.cs.names.lookup (Str.ofString "int") = some .globalImplicit := by rw [hcs]; rfl
    exact (SX_cons (SX_if (ST_cmp c_eq (SE_name (i := 0) rfl) (SE_glob l_fnan (g_fnan hK) (r_fnan hK)) rfl) (SX_cons SX1_false
  SX_nil)
  SX_nil)
  (SX_cons (SX_if (ST_cmp c_in_tup (SE_name (i := 0) rfl) (SE_tup (SEs_cons (SE_glob l_finf (g_finf hK) (r_finf hK)) (SEs_cons (SE_glob l_fninf (g_fninf hK) (r_fninf hK)) SEs_nil))) rfl) (SX_cons SX1_false
  SX_nil)
  SX_nil)
  (SX_cons (SX_unpack (xs := [Str.ofString "sign", Str.ofString "man", Str.ofString "exp", Str.ofString "bc"]) (SE_name (i := 0) rfl) rfl (NameElts.cons (NameElts.cons (NameElts.cons (NameElts.cons NameElts.nil)))) rfl rfl)
  (SX_cons (SX_if (ST_val (SE_name (i := 1) rfl)) (SX_cons (SX_set (i := 2) rfl (SE_neg (SE_name (i := 2) rfl)))
  SX_nil)
  SX_nil)
  (SX_cons (SX_if (ST_cmp c_ge (SE_name (i := 3) rfl) SE_int rfl) (SX_cons (SX_ret (SE_tup (SEs_cons (SE_bin b_mul (SE_name (i := 2) rfl) (SE_bin b_shl SE_int (SE_name (i := 3) rfl))) (SEs_cons (SE_tcall l_int (n_int hK) Boot.«int» bc_int (SEs_cons SE_int SEs_nil)) SEs_nil))))
  SX_nil)
  (SX_cons (SX_ret (SE_tup (SEs_cons (SE_name (i := 2) rfl) (SEs_cons (SE_bin b_shl (SE_tcall l_int (n_int hK) Boot.«int» bc_int (SEs_cons SE_int SEs_nil)) (SE_neg (SE_name (i := 3) rfl))) SEs_nil))))
  SX_nil))
  SX_nil)))))

def q_mpf_eq_1 (cx : Cx) : Tx := tSeq (tRet (tBin kEq (tName 0) (tName 1)))
  tSkip
def q_mpf_eq (cx : Cx) : Tx := tSeq (tIf (tOrT (tNotT (tTruth (tSub (tName 0) (tInt 1)))) (tOrT (tNotT (tTruth (tSub (tName 1) (tInt 1)))) tFalse)) (tSeq (tIf (tOrT (tTest (tBin kEq (tName 0) (tGlob p_fnan))) (tOrT (tTest (tBin kEq (tName 1) (tGlob p_fnan))) tFalse)) (tSeq (tRet (tBool false))
  tSkip)
  tSkip)
  tSkip)
  tSkip)
  (q_mpf_eq_1 cx)
theorem s_mpf_eq {ρ σ P} (h : ∀ R : Tx, R = q_mpf_eq_1 cx → tSeq (tIf (tOrT (tNotT (tTruth (tSub (tName 0) (tInt 1)))) (tOrT (tNotT (tTruth (tSub (tName 1) (tInt 1)))) tFalse)) (tSeq (tIf (tOrT (tTest (tBin kEq (tName 0) (tGlob p_fnan))) (tOrT (tTest (tBin kEq (tName 1) (tGlob p_fnan))) tFalse)) (tSeq (tRet (tBool false))
  tSkip)
  tSkip)
  tSkip)
  tSkip) R ρ σ P) : q_mpf_eq cx ρ σ P := h _ rfl
abbrev ns_mpf_eq : List Str := [Str.ofString "s", Str.ofString "t"]
theorem w_mpf_eq (hK : KK cx) {args : List PyData} {out : Except Exn PyData} (hl : args.length = 2) (hvc : q_mpf_eq cx (valSlots (args ++ []) 0) [] (callPost out)) : CallOK cx 149 0 args out := by
  refine call_ok (n := 0) (dfl := []) (tx := q_mpf_eq cx) [Str.ofString "s", Str.ofString "t"] ns_mpf_eq [] hK rfl (by kernel_rfl) (fun us s hu hk => ?_) (fun _ _ _ _ => Rds.nil) (by rw [List.length_append, hl]; rfl) (fun i x h => ?_) (by decide +kernel) (by decide +kernel) rfl rfl rfl (by decide) (fun fc hcs hrk => ?_) hvc
  · rw [hl] at hu
    obtain ⟨u0, u1, rfl⟩ := len_2 hu
    exact BindsTo.of_eq rfl
  · exact nth_sub (by decide +kernel) h
  · have l_fnan : fc.cs.names.lookup (Str.ofString "fnan") = some .globalImplicit := by rw [hcs]; rfl
    exact (SX_cons (SX_if (ST_bool (STs_or_cons (ST_not (ST_val (SE_sub (SE_name (i := 0) rfl) SE_int (fun _ _ => rfl)))) (STs_or_cons (ST_not (ST_val (SE_sub (SE_name (i := 1) rfl) SE_int (fun _ _ => rfl)))) STs_or_nil))) (SX_cons (SX_if (ST_bool (STs_or_cons (ST_cmp c_eq (SE_name (i := 0) rfl) (SE_glob l_fnan (g_fnan hK) (r_fnan hK)) rfl) (STs_or_cons (ST_cmp c_eq (SE_name (i := 1) rfl) (SE_glob l_fnan (g_fnan hK) (r_fnan hK)) rfl) STs_or_nil))) (SX_cons (SX_ret SE_bool)
  SX_nil)
  SX_nil)
  SX_nil)
  SX_nil)
  (SX_cons (SX_ret (SE_cmp c_eq (SE_name (i := 0) rfl) (SE_name (i := 1) rfl) rfl))
  SX_nil))

def q_mpf_cmp_10 (cx : Cx) : Tx := tSeq (tRet (tInt 1))
  tSkip
def q_mpf_cmp_9 (cx : Cx) : Tx := tSeq (tIf (tTruth (tSub (tName 12) (tInt 0))) (tSeq (tRet (tNeg (tInt 1)))
  tSkip)
  tSkip)
  (q_mpf_cmp_10 cx)
theorem s_mpf_cmp_9 {ρ σ P} (h : ∀ R : Tx, R = q_mpf_cmp_10 cx → tSeq (tIf (tTruth (tSub (tName 12) (tInt 0))) (tSeq (tRet (tNeg (tInt 1)))
  tSkip)
  tSkip) R ρ σ P) : q_mpf_cmp_9 cx ρ σ P := h _ rfl
def q_mpf_cmp_8 (cx : Cx) : Tx := tSeq (tSet 12 (tCall cx 6 238 (tCons (tName 0) (tCons (tName 1) (tCons (tInt 5) (tCons (tGlob (.str (Str.ofString "f"))) tNil))))))
  (q_mpf_cmp_9 cx)
theorem s_mpf_cmp_8 {ρ σ P} (h : ∀ R : Tx, R = q_mpf_cmp_9 cx → tSeq (tSet 12 (tCall cx 6 238 (tCons (tName 0) (tCons (tName 1) (tCons (tInt 5) (tCons (tGlob (.str (Str.ofString "f"))) tNil)))))) R ρ σ P) : q_mpf_cmp_8 cx ρ σ P := h _ rfl
def q_mpf_cmp_7 (cx : Cx) : Tx := tSeq (tIf (tTruth (tName 2)) (tSeq (tIf (tTest (tBin kLt (tName 10) (tName 11))) (tSeq (tRet (tInt 1))
  tSkip)
  tSkip)
  (tSeq (tIf (tTest (tBin kGt (tName 10) (tName 11))) (tSeq (tRet (tNeg (tInt 1)))
  tSkip)
  tSkip)
  tSkip))
  (tSeq (tIf (tTest (tBin kLt (tName 10) (tName 11))) (tSeq (tRet (tNeg (tInt 1)))
  tSkip)
  tSkip)
  (tSeq (tIf (tTest (tBin kGt (tName 10) (tName 11))) (tSeq (tRet (tInt 1))
  tSkip)
  tSkip)
  tSkip)))
  (q_mpf_cmp_8 cx)
theorem s_mpf_cmp_7 {ρ σ P} (h : ∀ R : Tx, R = q_mpf_cmp_8 cx → tSeq (tIf (tTruth (tName 2)) (tSeq (tIf (tTest (tBin kLt (tName 10) (tName 11))) (tSeq (tRet (tInt 1))
  tSkip)
  tSkip)
  (tSeq (tIf (tTest (tBin kGt (tName 10) (tName 11))) (tSeq (tRet (tNeg (tInt 1)))
  tSkip)
  tSkip)
  tSkip))
  (tSeq (tIf (tTest (tBin kLt (tName 10) (tName 11))) (tSeq (tRet (tNeg (tInt 1)))
  tSkip)
  tSkip)
  (tSeq (tIf (tTest (tBin kGt (tName 10) (tName 11))) (tSeq (tRet (tInt 1))
  tSkip)
  tSkip)
  tSkip))) R ρ σ P) : q_mpf_cmp_7 cx ρ σ P := h _ rfl
def q_mpf_cmp_6 (cx : Cx) : Tx := tSeq (tSet 11 (tBin kAdd (tName 9) (tName 8)))
  (q_mpf_cmp_7 cx)
theorem s_mpf_cmp_6 {ρ σ P} (h : ∀ R : Tx, R = q_mpf_cmp_7 cx → tSeq (tSet 11 (tBin kAdd (tName 9) (tName 8))) R ρ σ P) : q_mpf_cmp_6 cx ρ σ P := h _ rfl
def q_mpf_cmp_5 (cx : Cx) : Tx := tSeq (tSet 10 (tBin kAdd (tName 5) (tName 4)))
  (q_mpf_cmp_6 cx)
theorem s_mpf_cmp_5 {ρ σ P} (h : ∀ R : Tx, R = q_mpf_cmp_6 cx → tSeq (tSet 10 (tBin kAdd (tName 5) (tName 4))) R ρ σ P) : q_mpf_cmp_5 cx ρ σ P := h _ rfl
def q_mpf_cmp_4 (cx : Cx) : Tx := tSeq (tIf (tTest (tBin kEq (tName 4) (tName 8))) (tSeq (tIf (tTest (tBin kEq (tName 3) (tName 7))) (tSeq (tRet (tInt 0))
  tSkip)
  tSkip)
  (tSeq (tIf (tTest (tBin kGt (tName 3) (tName 7))) (tSeq (tIf (tTruth (tName 2)) (tSeq (tRet (tNeg (tInt 1)))
  tSkip)
  (tSeq (tRet (tInt 1))
  tSkip))
  tSkip)
  (tSeq (tIf (tTruth (tName 2)) (tSeq (tRet (tInt 1))
  tSkip)
  (tSeq (tRet (tNeg (tInt 1)))
  tSkip))
  tSkip))
  tSkip))
  tSkip)
  (q_mpf_cmp_5 cx)
theorem s_mpf_cmp_4 {ρ σ P} (h : ∀ R : Tx, R = q_mpf_cmp_5 cx → tSeq (tIf (tTest (tBin kEq (tName 4) (tName 8))) (tSeq (tIf (tTest (tBin kEq (tName 3) (tName 7))) (tSeq (tRet (tInt 0))
  tSkip)
  tSkip)
  (tSeq (tIf (tTest (tBin kGt (tName 3) (tName 7))) (tSeq (tIf (tTruth (tName 2)) (tSeq (tRet (tNeg (tInt 1)))
  tSkip)
  (tSeq (tRet (tInt 1))
  tSkip))
  tSkip)
  (tSeq (tIf (tTruth (tName 2)) (tSeq (tRet (tInt 1))
  tSkip)
  (tSeq (tRet (tNeg (tInt 1)))
  tSkip))
  tSkip))
  tSkip))
  tSkip) R ρ σ P) : q_mpf_cmp_4 cx ρ σ P := h _ rfl
def q_mpf_cmp_3 (cx : Cx) : Tx := tSeq (tIf (tTest (tBin kNe (tName 2) (tName 6))) (tSeq (tIf (tNotT (tTruth (tName 2))) (tSeq (tRet (tInt 1))
  tSkip)
  tSkip)
  (tSeq (tRet (tNeg (tInt 1)))
  tSkip))
  tSkip)
  (q_mpf_cmp_4 cx)
theorem s_mpf_cmp_3 {ρ σ P} (h : ∀ R : Tx, R = q_mpf_cmp_4 cx → tSeq (tIf (tTest (tBin kNe (tName 2) (tName 6))) (tSeq (tIf (tNotT (tTruth (tName 2))) (tSeq (tRet (tInt 1))
  tSkip)
  tSkip)
  (tSeq (tRet (tNeg (tInt 1)))
  tSkip))
  tSkip) R ρ σ P) : q_mpf_cmp_3 cx ρ σ P := h _ rfl
def q_mpf_cmp_2 (cx : Cx) : Tx := tSeq (tIf (tOrT (tNotT (tTruth (tName 3))) (tOrT (tNotT (tTruth (tName 7))) tFalse)) (tSeq (tIf (tTest (tBin kEq (tName 0) (tGlob p_fzero))) (tSeq (tRet (tNeg (tCall cx 6 222 (tCons (tName 1) tNil))))
  tSkip)
  tSkip)
  (tSeq (tIf (tTest (tBin kEq (tName 1) (tGlob p_fzero))) (tSeq (tRet (tCall cx 6 222 (tCons (tName 0) tNil)))
  tSkip)
  tSkip)
  (tSeq (tIf (tTest (tBin kEq (tName 0) (tName 1))) (tSeq (tRet (tInt 0))
  tSkip)
  tSkip)
  (tSeq (tIf (tTest (tBin kEq (tName 1) (tGlob p_fnan))) (tSeq (tRet (tInt 1))
  tSkip)
  tSkip)
  (tSeq (tIf (tTest (tBin kEq (tName 0) (tGlob p_finf))) (tSeq (tRet (tInt 1))
  tSkip)
  tSkip)
  (tSeq (tIf (tTest (tBin kEq (tName 1) (tGlob p_fninf))) (tSeq (tRet (tInt 1))
  tSkip)
  tSkip)
  (tSeq (tRet (tNeg (tInt 1)))
  tSkip)))))))
  tSkip)
  (q_mpf_cmp_3 cx)
theorem s_mpf_cmp_2 {ρ σ P} (h : ∀ R : Tx, R = q_mpf_cmp_3 cx → tSeq (tIf (tOrT (tNotT (tTruth (tName 3))) (tOrT (tNotT (tTruth (tName 7))) tFalse)) (tSeq (tIf (tTest (tBin kEq (tName 0) (tGlob p_fzero))) (tSeq (tRet (tNeg (tCall cx 6 222 (tCons (tName 1) tNil))))
  tSkip)
  tSkip)
  (tSeq (tIf (tTest (tBin kEq (tName 1) (tGlob p_fzero))) (tSeq (tRet (tCall cx 6 222 (tCons (tName 0) tNil)))
  tSkip)
  tSkip)
  (tSeq (tIf (tTest (tBin kEq (tName 0) (tName 1))) (tSeq (tRet (tInt 0))
  tSkip)
  tSkip)
  (tSeq (tIf (tTest (tBin kEq (tName 1) (tGlob p_fnan))) (tSeq (tRet (tInt 1))
  tSkip)
  tSkip)
  (tSeq (tIf (tTest (tBin kEq (tName 0) (tGlob p_finf))) (tSeq (tRet (tInt 1))
  tSkip)
  tSkip)
  (tSeq (tIf (tTest (tBin kEq (tName 1) (tGlob p_fninf))) (tSeq (tRet (tInt 1))
  tSkip)
  tSkip)
  (tSeq (tRet (tNeg (tInt 1)))
  tSkip)))))))
  tSkip) R ρ σ P) : q_mpf_cmp_2 cx ρ σ P := h _ rfl
def q_mpf_cmp_1 (cx : Cx) : Tx := tSeq (tUnpack [6, 7, 8, 9] (tName 1))
  (q_mpf_cmp_2 cx)
theorem s_mpf_cmp_1 {ρ σ P} (h : ∀ R : Tx, R = q_mpf_cmp_2 cx → tSeq (tUnpack [6, 7, 8, 9] (tName 1)) R ρ σ P) : q_mpf_cmp_1 cx ρ σ P := h _ rfl
def q_mpf_cmp (cx : Cx) : Tx := tSeq (tUnpack [2, 3, 4, 5] (tName 0))
  (q_mpf_cmp_1 cx)
theorem s_mpf_cmp {ρ σ P} (h : ∀ R : Tx, R = q_mpf_cmp_1 cx → tSeq (tUnpack [2, 3, 4, 5] (tName 0)) R ρ σ P) : q_mpf_cmp cx ρ σ P := h _ rfl
abbrev ns_mpf_cmp : List Str := [Str.ofString "s", Str.ofString "t", Str.ofString "ssign", Str.ofString "sman", Str.ofString "sexp", Str.ofString "sbc", Str.ofString "tsign", Str.ofString "tman", Str.ofString "texp", Str.ofString "tbc", Str.ofString "a", Str.ofString "b", Str.ofString "delta"]
theorem w_mpf_cmp (hK : KK cx) {args : List PyData} {out : Except Exn PyData} (hl : args.length = 2) (hvc : q_mpf_cmp cx (valSlots (args ++ []) 11) [] (callPost out)) : CallOK cx 156 6 args out := by
  refine call_ok (n := 11) (dfl := []) (tx := q_mpf_cmp cx) [Str.ofString "s", Str.ofString "t"] ns_mpf_cmp [] hK rfl (by kernel_rfl) (fun us s hu hk => ?_) (fun _ _ _ _ => Rds.nil) (by rw [List.length_append, hl]; rfl) (fun i x h => ?_) (by decide +kernel) (by decide +kernel) rfl rfl rfl (by decide) (fun fc hcs hrk => ?_) hvc
  · rw [hl] at hu
    obtain ⟨u0, u1, rfl⟩ := len_2 hu
    exact BindsTo.of_eq rfl
  · exact nth_sub (by decide +kernel) h
  · have l_fninf : fc.cs.names.lookup (Str.ofString "fninf") = some .globalImplicit := by rw [hcs]; rfl
    have l_finf : fc.cs.names.lookup (Str.ofString "finf") = some .globalImplicit := by rw [hcs]; rfl
    have l_fnan : fc.cs.names.lookup (Str.ofString "fnan") = some .globalImplicit := by rw [hcs]; rfl
    have l_fzero : fc.cs.names.lookup (Str.ofString "fzero") = some .globalImplicit := by rw [hcs]; rfl
    have l_mpf_sign : fc.cs.names.lookup (Str.ofString "mpf_sign") = some .globalImplicit := by rw [hcs]; rfl
    have l_round_floor : fc.cs.names.lookup (Str.ofString "round_floor") = some .globalImplicit := by rw [hcs]; rfl
    have l_mpf_sub : fc.cs.names.lookup (Str.ofString "mpf_sub") = some .globalImplicit := by rw [hcs]; rfl
    exact (SX_cons (SX_unpack (xs := [Str.ofString "ssign", Str.ofString "sman", Str.ofString "sexp", Str.ofString "sbc"]) (SE_name (i := 0) rfl) rfl (NameElts.cons (NameElts.cons (NameElts.cons (NameElts.cons NameElts.nil)))) rfl rfl)
  (SX_cons (SX_unpack (xs := [Str.ofString "tsign", Str.ofString "tman", Str.ofString "texp", Str.ofString "tbc"]) (SE_name (i := 1) rfl) rfl (NameElts.cons (NameElts.cons (NameElts.cons (NameElts.cons NameElts.nil)))) rfl rfl)
  (SX_cons (SX_if (ST_bool (STs_or_cons (ST_not (ST_val (SE_name (i := 3) rfl))) (STs_or_cons (ST_not (ST_val (SE_name (i := 7) rfl))) STs_or_nil))) (SX_cons (SX_if (ST_cmp c_eq (SE_name (i := 0) rfl) (SE_glob l_fzero (g_fzero hK) (r_fzero hK)) rfl) (SX_cons (SX_ret (SE_neg (SE_callR (n := 6) l_mpf_sign (g_mpf_sign hK) hK rfl hrk (SEs_cons (SE_name (i := 1) rfl) SEs_nil))))
  SX_nil)
  SX_nil)
  (SX_cons (SX_if (ST_cmp c_eq (SE_name (i := 1) rfl) (SE_glob l_fzero (g_fzero hK) (r_fzero hK)) rfl) (SX_cons (SX_ret (SE_callR (n := 6) l_mpf_sign (g_mpf_sign hK) hK rfl hrk (SEs_cons (SE_name (i := 0) rfl) SEs_nil)))
  SX_nil)
  SX_nil)
  (SX_cons (SX_if (ST_cmp c_eq (SE_name (i := 0) rfl) (SE_name (i := 1) rfl) rfl) (SX_cons (SX_ret SE_int)
  SX_nil)
  SX_nil)
  (SX_cons (SX_if (ST_cmp c_eq (SE_name (i := 1) rfl) (SE_glob l_fnan (g_fnan hK) (r_fnan hK)) rfl) (SX_cons (SX_ret SE_int)
  SX_nil)
  SX_nil)
  (SX_cons (SX_if (ST_cmp c_eq (SE_name (i := 0) rfl) (SE_glob l_finf (g_finf hK) (r_finf hK)) rfl) (SX_cons (SX_ret SE_int)
  SX_nil)
  SX_nil)
  (SX_cons (SX_if (ST_cmp c_eq (SE_name (i := 1) rfl) (SE_glob l_fninf (g_fninf hK) (r_fninf hK)) rfl) (SX_cons (SX_ret SE_int)
  SX_nil)
  SX_nil)
  (SX_cons (SX_ret (SE_neg SE_int))
  SX_nil)))))))
  SX_nil)
  (SX_cons (SX_if (ST_cmp c_ne (SE_name (i := 2) rfl) (SE_name (i := 6) rfl) rfl) (SX_cons (SX_if (ST_not (ST_val (SE_name (i := 2) rfl))) (SX_cons (SX_ret SE_int)
  SX_nil)
  SX_nil)
  (SX_cons (SX_ret (SE_neg SE_int))
  SX_nil))
  SX_nil)
  (SX_cons (SX_if (ST_cmp c_eq (SE_name (i := 4) rfl) (SE_name (i := 8) rfl) rfl) (SX_cons (SX_if (ST_cmp c_eq (SE_name (i := 3) rfl) (SE_name (i := 7) rfl) rfl) (SX_cons (SX_ret SE_int)
  SX_nil)
  SX_nil)
  (SX_cons (SX_if (ST_cmp c_gt (SE_name (i := 3) rfl) (SE_name (i := 7) rfl) rfl) (SX_cons (SX_if (ST_val (SE_name (i := 2) rfl)) (SX_cons (SX_ret (SE_neg SE_int))
  SX_nil)
  (SX_cons (SX_ret SE_int)
  SX_nil))
  SX_nil)
  (SX_cons (SX_if (ST_val (SE_name (i := 2) rfl)) (SX_cons (SX_ret SE_int)
  SX_nil)
  (SX_cons (SX_ret (SE_neg SE_int))
  SX_nil))
  SX_nil))
  SX_nil))
  SX_nil)
  (SX_cons (SX_set (i := 10) rfl (SE_bin b_add (SE_name (i := 5) rfl) (SE_name (i := 4) rfl)))
  (SX_cons (SX_set (i := 11) rfl (SE_bin b_add (SE_name (i := 9) rfl) (SE_name (i := 8) rfl)))
  (SX_cons (SX_if (ST_val (SE_name (i := 2) rfl)) (SX_cons (SX_if (ST_cmp c_lt (SE_name (i := 10) rfl) (SE_name (i := 11) rfl) rfl) (SX_cons (SX_ret SE_int)
  SX_nil)
  SX_nil)
  (SX_cons (SX_if (ST_cmp c_gt (SE_name (i := 10) rfl) (SE_name (i := 11) rfl) rfl) (SX_cons (SX_ret (SE_neg SE_int))
  SX_nil)
  SX_nil)
  SX_nil))
  (SX_cons (SX_if (ST_cmp c_lt (SE_name (i := 10) rfl) (SE_name (i := 11) rfl) rfl) (SX_cons (SX_ret (SE_neg SE_int))
  SX_nil)
  SX_nil)
  (SX_cons (SX_if (ST_cmp c_gt (SE_name (i := 10) rfl) (SE_name (i := 11) rfl) rfl) (SX_cons (SX_ret SE_int)
  SX_nil)
  SX_nil)
  SX_nil)))
  (SX_cons (SX_set (i := 12) rfl (SE_callR (n := 6) l_mpf_sub (g_mpf_sub hK) hK rfl hrk (SEs_cons (SE_name (i := 0) rfl) (SEs_cons (SE_name (i := 1) rfl) (SEs_cons SE_int (SEs_cons (SE_glob l_round_floor (g_round_floor hK) (fun _ _ _ _ => .str _ _)) SEs_nil))))))
  (SX_cons (SX_if (ST_val (SE_sub (SE_name (i := 12) rfl) SE_int (fun _ _ => rfl))) (SX_cons (SX_ret (SE_neg SE_int))
  SX_nil)
  SX_nil)
  (SX_cons (SX_ret SE_int)
  SX_nil)))))))))))

def q_mpf_lt_1 (cx : Cx) : Tx := tSeq (tRet (tBin kLt (tCall cx 7 156 (tCons (tName 0) (tCons (tName 1) tNil))) (tInt 0)))
  tSkip
def q_mpf_lt (cx : Cx) : Tx := tSeq (tIf (tOrT (tTest (tBin kEq (tName 0) (tGlob p_fnan))) (tOrT (tTest (tBin kEq (tName 1) (tGlob p_fnan))) tFalse)) (tSeq (tRet (tBool false))
  tSkip)
  tSkip)
  (q_mpf_lt_1 cx)
theorem s_mpf_lt {ρ σ P} (h : ∀ R : Tx, R = q_mpf_lt_1 cx → tSeq (tIf (tOrT (tTest (tBin kEq (tName 0) (tGlob p_fnan))) (tOrT (tTest (tBin kEq (tName 1) (tGlob p_fnan))) tFalse)) (tSeq (tRet (tBool false))
  tSkip)
  tSkip) R ρ σ P) : q_mpf_lt cx ρ σ P := h _ rfl
abbrev ns_mpf_lt : List Str := [Str.ofString "s", Str.ofString "t"]
theorem w_mpf_lt (hK : KK cx) {args : List PyData} {out : Except Exn PyData} (hl : args.length = 2) (hvc : q_mpf_lt cx (valSlots (args ++ []) 0) [] (callPost out)) : CallOK cx 163 7 args out := by
  refine call_ok (n := 0) (dfl := []) (tx := q_mpf_lt cx) [Str.ofString "s", Str.ofString "t"] ns_mpf_lt [] hK rfl (by kernel_rfl) (fun us s hu hk => ?_) (fun _ _ _ _ => Rds.nil) (by rw [List.length_append, hl]; rfl) (fun i x h => ?_) (by decide +kernel) (by decide +kernel) rfl rfl rfl (by decide) (fun fc hcs hrk => ?_) hvc
  · rw [hl] at hu
    obtain ⟨u0, u1, rfl⟩ := len_2 hu
    exact BindsTo.of_eq rfl
  · exact nth_sub (by decide +kernel) h
  · have l_fnan : fc.cs.names.lookup (Str.ofString "fnan") = some .globalImplicit := by rw [hcs]; rfl
    have l_mpf_cmp : fc.cs.names.lookup (Str.ofString "mpf_cmp") = some .globalImplicit := by rw [hcs]; rfl
    exact (SX_cons (SX_if (ST_bool (STs_or_cons (ST_cmp c_eq (SE_name (i := 0) rfl) (SE_glob l_fnan (g_fnan hK) (r_fnan hK)) rfl) (STs_or_cons (ST_cmp c_eq (SE_name (i := 1) rfl) (SE_glob l_fnan (g_fnan hK) (r_fnan hK)) rfl) STs_or_nil))) (SX_cons (SX_ret SE_bool)
  SX_nil)
  SX_nil)
  (SX_cons (SX_ret (SE_cmp c_lt (SE_callR (n := 7) l_mpf_cmp (g_mpf_cmp hK) hK rfl hrk (SEs_cons (SE_name (i := 0) rfl) (SEs_cons (SE_name (i := 1) rfl) SEs_nil))) SE_int rfl))
  SX_nil))

def q_mpf_le_1 (cx : Cx) : Tx := tSeq (tRet (tBin kLe (tCall cx 7 156 (tCons (tName 0) (tCons (tName 1) tNil))) (tInt 0)))
  tSkip
def q_mpf_le (cx : Cx) : Tx := tSeq (tIf (tOrT (tTest (tBin kEq (tName 0) (tGlob p_fnan))) (tOrT (tTest (tBin kEq (tName 1) (tGlob p_fnan))) tFalse)) (tSeq (tRet (tBool false))
  tSkip)
  tSkip)
  (q_mpf_le_1 cx)
theorem s_mpf_le {ρ σ P} (h : ∀ R : Tx, R = q_mpf_le_1 cx → tSeq (tIf (tOrT (tTest (tBin kEq (tName 0) (tGlob p_fnan))) (tOrT (tTest (tBin kEq (tName 1) (tGlob p_fnan))) tFalse)) (tSeq (tRet (tBool false))
  tSkip)
  tSkip) R ρ σ P) : q_mpf_le cx ρ σ P := h _ rfl
abbrev ns_mpf_le : List Str := [Str.ofString "s", Str.ofString "t"]
theorem w_mpf_le (hK : KK cx) {args : List PyData} {out : Except Exn PyData} (hl : args.length = 2) (hvc : q_mpf_le cx (valSlots (args ++ []) 0) [] (callPost out)) : CallOK cx 170 7 args out := by
  refine call_ok (n := 0) (dfl := []) (tx := q_mpf_le cx) [Str.ofString "s", Str.ofString "t"] ns_mpf_le [] hK rfl (by kernel_rfl) (fun us s hu hk => ?_) (fun _ _ _ _ => Rds.nil) (by rw [List.length_append, hl]; rfl) (fun i x h => ?_) (by decide +kernel) (by decide +kernel) rfl rfl rfl (by decide) (fun fc hcs hrk => ?_) hvc
  · rw [hl] at hu
    obtain ⟨u0, u1, rfl⟩ := len_2 hu
    exact BindsTo.of_eq rfl
  · exact nth_sub (by decide +kernel) h
  · have l_fnan : fc.cs.names.lookup (Str.ofString "fnan") = some .globalImplicit := by rw [hcs]; rfl
    have l_mpf_cmp : fc.cs.names.lookup (Str.ofString "mpf_cmp") = some .globalImplicit := by rw [hcs]; rfl
    exact (SX_cons (SX_if (ST_bool (STs_or_cons (ST_cmp c_eq (SE_name (i := 0) rfl) (SE_glob l_fnan (g_fnan hK) (r_fnan hK)) rfl) (STs_or_cons (ST_cmp c_eq (SE_name (i := 1) rfl) (SE_glob l_fnan (g_fnan hK) (r_fnan hK)) rfl) STs_or_nil))) (SX_cons (SX_ret SE_bool)
  SX_nil)
  SX_nil)
  (SX_cons (SX_ret (SE_cmp c_le (SE_callR (n := 7) l_mpf_cmp (g_mpf_cmp hK) hK rfl hrk (SEs_cons (SE_name (i := 0) rfl) (SEs_cons (SE_name (i := 1) rfl) SEs_nil))) SE_int rfl))
  SX_nil))

def q_mpf_gt_1 (cx : Cx) : Tx := tSeq (tRet (tBin kGt (tCall cx 7 156 (tCons (tName 0) (tCons (tName 1) tNil))) (tInt 0)))
  tSkip
def q_mpf_gt (cx : Cx) : Tx := tSeq (tIf (tOrT (tTest (tBin kEq (tName 0) (tGlob p_fnan))) (tOrT (tTest (tBin kEq (tName 1) (tGlob p_fnan))) tFalse)) (tSeq (tRet (tBool false))
  tSkip)
  tSkip)
  (q_mpf_gt_1 cx)
theorem s_mpf_gt {ρ σ P} (h : ∀ R : Tx, R = q_mpf_gt_1 cx → tSeq (tIf (tOrT (tTest (tBin kEq (tName 0) (tGlob p_fnan))) (tOrT (tTest (tBin kEq (tName 1) (tGlob p_fnan))) tFalse)) (tSeq (tRet (tBool false))
  tSkip)
  tSkip) R ρ σ P) : q_mpf_gt cx ρ σ P := h _ rfl
abbrev ns_mpf_gt : List Str := [Str.ofString "s", Str.ofString "t"]
theorem w_mpf_gt (hK : KK cx) {args : List PyData} {out : Except Exn PyData} (hl : args.length = 2) (hvc : q_mpf_gt cx (valSlots (args ++ []) 0) [] (callPost out)) : CallOK cx 177 7 args out := by
  refine call_ok (n := 0) (dfl := []) (tx := q_mpf_gt cx) [Str.ofString "s", Str.ofString "t"] ns_mpf_gt [] hK rfl (by kernel_rfl) (fun us s hu hk => ?_) (fun _ _ _ _ => Rds.nil) (by rw [List.length_append, hl]; rfl) (fun i x h => ?_) (by decide +kernel) (by decide +kernel) rfl rfl rfl (by decide) (fun fc hcs hrk => ?_) hvc
  · rw [hl] at hu
    obtain ⟨u0, u1, rfl⟩ := len_2 hu
    exact BindsTo.of_eq rfl
  · exact nth_sub (by decide +kernel) h
  · have l_fnan : fc.cs.names.lookup (Str.ofString "fnan") = some .globalImplicit := by rw [hcs]; rfl
    have l_mpf_cmp : fc.cs.names.lookup (Str.ofString "mpf_cmp") = some .globalImplicit := by rw [hcs]; rfl
    exact (SX_cons (SX_if (ST_bool (STs_or_cons (ST_cmp c_eq (SE_name (i := 0) rfl) (SE_glob l_fnan (g_fnan hK) (r_fnan hK)) rfl) (STs_or_cons (ST_cmp c_eq (SE_name (i := 1) rfl) (SE_glob l_fnan (g_fnan hK) (r_fnan hK)) rfl) STs_or_nil))) (SX_cons (SX_ret SE_bool)
  SX_nil)
  SX_nil)
  (SX_cons (SX_ret (SE_cmp c_gt (SE_callR (n := 7) l_mpf_cmp (g_mpf_cmp hK) hK rfl hrk (SEs_cons (SE_name (i := 0) rfl) (SEs_cons (SE_name (i := 1) rfl) SEs_nil))) SE_int rfl))
  SX_nil))

def q_mpf_ge_1 (cx : Cx) : Tx := tSeq (tRet (tBin kGe (tCall cx 7 156 (tCons (tName 0) (tCons (tName 1) tNil))) (tInt 0)))
  tSkip
def q_mpf_ge (cx : Cx) : Tx := tSeq (tIf (tOrT (tTest (tBin kEq (tName 0) (tGlob p_fnan))) (tOrT (tTest (tBin kEq (tName 1) (tGlob p_fnan))) tFalse)) (tSeq (tRet (tBool false))
  tSkip)
  tSkip)
  (q_mpf_ge_1 cx)
theorem s_mpf_ge {ρ σ P} (h : ∀ R : Tx, R = q_mpf_ge_1 cx → tSeq (tIf (tOrT (tTest (tBin kEq (tName 0) (tGlob p_fnan))) (tOrT (tTest (tBin kEq (tName 1) (tGlob p_fnan))) tFalse)) (tSeq (tRet (tBool false))
  tSkip)
  tSkip) R ρ σ P) : q_mpf_ge cx ρ σ P := h _ rfl
abbrev ns_mpf_ge : List Str := [Str.ofString "s", Str.ofString "t"]
theorem w_mpf_ge (hK : KK cx) {args : List PyData} {out : Except Exn PyData} (hl : args.length = 2) (hvc : q_mpf_ge cx (valSlots (args ++ []) 0) [] (callPost out)) : CallOK cx 184 7 args out := by
  refine call_ok (n := 0) (dfl := []) (tx := q_mpf_ge cx) [Str.ofString "s", Str.ofString "t"] ns_mpf_ge [] hK rfl (by kernel_rfl) (fun us s hu hk => ?_) (fun _ _ _ _ => Rds.nil) (by rw [List.length_append, hl]; rfl) (fun i x h => ?_) (by decide +kernel) (by decide +kernel) rfl rfl rfl (by decide) (fun fc hcs hrk => ?_) hvc
  · rw [hl] at hu
    obtain ⟨u0, u1, rfl⟩ := len_2 hu
    exact BindsTo.of_eq rfl
  · exact nth_sub (by decide +kernel) h
  · have l_fnan : fc.cs.names.lookup (Str.ofString "fnan") = some .globalImplicit := by rw [hcs]; rfl
    have l_mpf_cmp : fc.cs.names.lookup (Str.ofString "mpf_cmp") = some .globalImplicit := by rw [hcs]; rfl
    exact (SX_cons (SX_if (ST_bool (STs_or_cons (ST_cmp c_eq (SE_name (i := 0) rfl) (SE_glob l_fnan (g_fnan hK) (r_fnan hK)) rfl) (STs_or_cons (ST_cmp c_eq (SE_name (i := 1) rfl) (SE_glob l_fnan (g_fnan hK) (r_fnan hK)) rfl) STs_or_nil))) (SX_cons (SX_ret SE_bool)
  SX_nil)
  SX_nil)
  (SX_cons (SX_ret (SE_cmp c_ge (SE_callR (n := 7) l_mpf_cmp (g_mpf_cmp hK) hK rfl hrk (SEs_cons (SE_name (i := 0) rfl) (SEs_cons (SE_name (i := 1) rfl) SEs_nil))) SE_int rfl))
  SX_nil))

def q_mpf_min_max_2 (cx : Cx) : Tx := tSeq (tRet (tTup (tCons (tName 1) (tCons (tName 2) tNil))))
  tSkip
def q_mpf_min_max_1 (cx : Cx) : Tx := tSeq (tFor 3 (tCutFrom (tName 0) (tInt 1)) (tSeq (tIf (tTruth (tCall cx 8 163 (tCons (tName 3) (tCons (tName 1) tNil)))) (tSeq (tSet 1 (tName 3))
  tSkip)
  tSkip)
  (tSeq (tIf (tTruth (tCall cx 8 177 (tCons (tName 3) (tCons (tName 2) tNil)))) (tSeq (tSet 2 (tName 3))
  tSkip)
  tSkip)
  tSkip)))
  (q_mpf_min_max_2 cx)
theorem s_mpf_min_max_1 {ρ σ P} (h : ∀ R : Tx, R = q_mpf_min_max_2 cx → tSeq (tFor 3 (tCutFrom (tName 0) (tInt 1)) (tSeq (tIf (tTruth (tCall cx 8 163 (tCons (tName 3) (tCons (tName 1) tNil)))) (tSeq (tSet 1 (tName 3))
  tSkip)
  tSkip)
  (tSeq (tIf (tTruth (tCall cx 8 177 (tCons (tName 3) (tCons (tName 2) tNil)))) (tSeq (tSet 2 (tName 3))
  tSkip)
  tSkip)
  tSkip))) R ρ σ P) : q_mpf_min_max_1 cx ρ σ P := h _ rfl
def q_mpf_min_max (cx : Cx) : Tx := tSeq (tSet2 1 2 (tSub (tName 0) (tInt 0)))
  (q_mpf_min_max_1 cx)
theorem s_mpf_min_max {ρ σ P} (h : ∀ R : Tx, R = q_mpf_min_max_1 cx → tSeq (tSet2 1 2 (tSub (tName 0) (tInt 0))) R ρ σ P) : q_mpf_min_max cx ρ σ P := h _ rfl
abbrev ns_mpf_min_max : List Str := [Str.ofString "seq", Str.ofString "min", Str.ofString "max", Str.ofString "x"]
theorem w_mpf_min_max (hK : KK cx) {args : List PyData} {out : Except Exn PyData} (hl : args.length = 1) (hvc : q_mpf_min_max cx (valSlots (args ++ []) 3) [] (callPost out)) : CallOK cx 191 8 args out := by
  refine call_ok (n := 3) (dfl := []) (tx := q_mpf_min_max cx) [Str.ofString "seq"] ns_mpf_min_max [] hK rfl (by kernel_rfl) (fun us s hu hk => ?_) (fun _ _ _ _ => Rds.nil) (by rw [List.length_append, hl]; rfl) (fun i x h => ?_) (by decide +kernel) (by decide +kernel) rfl rfl rfl (by decide) (fun fc hcs hrk => ?_) hvc
  · rw [hl] at hu
    obtain ⟨u0, rfl⟩ := len_1 hu
    exact BindsTo.of_eq rfl
  · exact nth_sub (by decide +kernel) h
  · have l_mpf_gt : fc.cs.names.lookup (Str.ofString "mpf_gt") = some .globalImplicit := by rw [hcs]; rfl
    have l_mpf_lt : fc.cs.names.lookup (Str.ofString "mpf_lt") = some .globalImplicit := by rw [hcs]; rfl
    exact (SX_cons (SX_set2 (i := 1) (j := 2) rfl rfl (SE_sub (SE_name (i := 0) rfl) SE_int (fun _ _ => rfl)))
  (SX_cons (SX_for (j := 3) rfl (SE_cutFrom (SE_name (i := 0) rfl) SE_int) (SX_cons (SX_if (ST_val (SE_callR (n := 8) l_mpf_lt (g_mpf_lt hK) hK rfl hrk (SEs_cons (SE_name (i := 3) rfl) (SEs_cons (SE_name (i := 1) rfl) SEs_nil)))) (SX_cons (SX_set (i := 1) rfl (SE_name (i := 3) rfl))
  SX_nil)
  SX_nil)
  (SX_cons (SX_if (ST_val (SE_callR (n := 8) l_mpf_gt (g_mpf_gt hK) hK rfl hrk (SEs_cons (SE_name (i := 3) rfl) (SEs_cons (SE_name (i := 2) rfl) SEs_nil)))) (SX_cons (SX_set (i := 2) rfl (SE_name (i := 3) rfl))
  SX_nil)
  SX_nil)
  SX_nil)))
  (SX_cons (SX_ret (SE_tup (SEs_cons (SE_name (i := 1) rfl) (SEs_cons (SE_name (i := 2) rfl) SEs_nil))))
  SX_nil)))

def q_mpf_pos_1 (cx : Cx) : Tx := tSeq (tRet (tName 0))
  tSkip
def q_mpf_pos (cx : Cx) : Tx := tSeq (tIf (tTruth (tName 1)) (tSeq (tUnpack [3, 4, 5, 6] (tName 0))
  (tSeq (tIf (tAndT (tNotT (tTruth (tName 4))) (tAndT (tTruth (tName 5)) tTrue)) (tSeq (tRet (tName 0))
  tSkip)
  tSkip)
  (tSeq (tRet (tCall cx 3 80 (tCons (tName 3) (tCons (tName 4) (tCons (tName 5) (tCons (tName 6) (tCons (tName 1) (tCons (tName 2) tNil))))))))
  tSkip)))
  tSkip)
  (q_mpf_pos_1 cx)
theorem s_mpf_pos {ρ σ P} (h : ∀ R : Tx, R = q_mpf_pos_1 cx → tSeq (tIf (tTruth (tName 1)) (tSeq (tUnpack [3, 4, 5, 6] (tName 0))
  (tSeq (tIf (tAndT (tNotT (tTruth (tName 4))) (tAndT (tTruth (tName 5)) tTrue)) (tSeq (tRet (tName 0))
  tSkip)
  tSkip)
  (tSeq (tRet (tCall cx 3 80 (tCons (tName 3) (tCons (tName 4) (tCons (tName 5) (tCons (tName 6) (tCons (tName 1) (tCons (tName 2) tNil))))))))
  tSkip)))
  tSkip) R ρ σ P) : q_mpf_pos cx ρ σ P := h _ rfl
abbrev ns_mpf_pos : List Str := [Str.ofString "s", Str.ofString "prec", Str.ofString "rnd", Str.ofString "sign", Str.ofString "man", Str.ofString "exp", Str.ofString "bc"]
theorem w_mpf_pos3 (hK : KK cx) {args : List PyData} {out : Except Exn PyData} (hl : args.length = 3) (hvc : q_mpf_pos cx (valSlots (args ++ []) 4) [] (callPost out)) : CallOK cx 199 3 args out := by
  refine call_ok (n := 4) (dfl := []) (tx := q_mpf_pos cx) [Str.ofString "s", Str.ofString "prec", Str.ofString "rnd"] ns_mpf_pos [] hK rfl (by kernel_rfl) (fun us s hu hk => ?_) (fun _ _ _ _ => Rds.nil) (by rw [List.length_append, hl]; rfl) (fun i x h => ?_) (by decide +kernel) (by decide +kernel) rfl rfl rfl (by decide) (fun fc hcs hrk => ?_) hvc
  · rw [hl] at hu
    obtain ⟨u0, u1, u2, rfl⟩ := len_3 hu
    exact binds_K (K := hd.heap_39 cx.w.params) (hK ▸ hk) rfl rfl rfl rfl rfl
  · exact nth_sub (by decide +kernel) h
  · have l_normalize : fc.cs.names.lookup (Str.ofString "normalize") = some .globalImplicit := by rw [hcs]; rfl
    exact (SX_cons (SX_if (ST_val (SE_name (i := 1) rfl)) (SX_cons (SX_unpack (xs := [Str.ofString "sign", Str.ofString "man", Str.ofString "exp", Str.ofString "bc"]) (SE_name (i := 0) rfl) rfl (NameElts.cons (NameElts.cons (NameElts.cons (NameElts.cons NameElts.nil)))) rfl rfl)
  (SX_cons (SX_if (ST_bool (STs_and_cons (ST_not (ST_val (SE_name (i := 4) rfl))) (STs_and_cons (ST_val (SE_name (i := 5) rfl)) STs_and_nil))) (SX_cons (SX_ret (SE_name (i := 0) rfl))
  SX_nil)
  SX_nil)
  (SX_cons (SX_ret (SE_callR (n := 3) l_normalize (g_normalize hK) hK rfl hrk (SEs_cons (SE_name (i := 3) rfl) (SEs_cons (SE_name (i := 4) rfl) (SEs_cons (SE_name (i := 5) rfl) (SEs_cons (SE_name (i := 6) rfl) (SEs_cons (SE_name (i := 1) rfl) (SEs_cons (SE_name (i := 2) rfl) SEs_nil))))))))
  SX_nil)))
  SX_nil)
  (SX_cons (SX_ret (SE_name (i := 0) rfl))
  SX_nil))

def q_mpf_neg_3 (cx : Cx) : Tx := tSeq (tRet (tCall cx 3 80 (tCons (tBin kSub (tInt 1) (tName 3)) (tCons (tName 4) (tCons (tName 5) (tCons (tName 6) (tCons (tName 1) (tCons (tName 2) tNil))))))))
  tSkip
def q_mpf_neg_2 (cx : Cx) : Tx := tSeq (tIf (tNotT (tTruth (tName 1))) (tSeq (tRet (tTup (tCons (tBin kSub (tInt 1) (tName 3)) (tCons (tName 4) (tCons (tName 5) (tCons (tName 6) tNil))))))
  tSkip)
  tSkip)
  (q_mpf_neg_3 cx)
theorem s_mpf_neg_2 {ρ σ P} (h : ∀ R : Tx, R = q_mpf_neg_3 cx → tSeq (tIf (tNotT (tTruth (tName 1))) (tSeq (tRet (tTup (tCons (tBin kSub (tInt 1) (tName 3)) (tCons (tName 4) (tCons (tName 5) (tCons (tName 6) tNil))))))
  tSkip)
  tSkip) R ρ σ P) : q_mpf_neg_2 cx ρ σ P := h _ rfl
def q_mpf_neg_1 (cx : Cx) : Tx := tSeq (tIf (tNotT (tTruth (tName 4))) (tSeq (tIf (tTruth (tName 5)) (tSeq (tIf (tTest (tBin kEq (tName 0) (tGlob p_finf))) (tSeq (tRet (tGlob p_fninf))
  tSkip)
  tSkip)
  (tSeq (tIf (tTest (tBin kEq (tName 0) (tGlob p_fninf))) (tSeq (tRet (tGlob p_finf))
  tSkip)
  tSkip)
  tSkip))
  tSkip)
  (tSeq (tRet (tName 0))
  tSkip))
  tSkip)
  (q_mpf_neg_2 cx)
theorem s_mpf_neg_1 {ρ σ P} (h : ∀ R : Tx, R = q_mpf_neg_2 cx → tSeq (tIf (tNotT (tTruth (tName 4))) (tSeq (tIf (tTruth (tName 5)) (tSeq (tIf (tTest (tBin kEq (tName 0) (tGlob p_finf))) (tSeq (tRet (tGlob p_fninf))
  tSkip)
  tSkip)
  (tSeq (tIf (tTest (tBin kEq (tName 0) (tGlob p_fninf))) (tSeq (tRet (tGlob p_finf))
  tSkip)
  tSkip)
  tSkip))
  tSkip)
  (tSeq (tRet (tName 0))
  tSkip))
  tSkip) R ρ σ P) : q_mpf_neg_1 cx ρ σ P := h _ rfl
def q_mpf_neg (cx : Cx) : Tx := tSeq (tUnpack [3, 4, 5, 6] (tName 0))
  (q_mpf_neg_1 cx)
theorem s_mpf_neg {ρ σ P} (h : ∀ R : Tx, R = q_mpf_neg_1 cx → tSeq (tUnpack [3, 4, 5, 6] (tName 0)) R ρ σ P) : q_mpf_neg cx ρ σ P := h _ rfl
abbrev ns_mpf_neg : List Str := [Str.ofString "s", Str.ofString "prec", Str.ofString "rnd", Str.ofString "sign", Str.ofString "man", Str.ofString "exp", Str.ofString "bc"]
theorem w_mpf_neg1 (hK : KK cx) {args : List PyData} {out : Except Exn PyData} (hl : args.length = 1) (hvc : q_mpf_neg cx (valSlots (args ++ [(.int 0 : PyData), (.str (Str.ofString "d") : PyData)]) 4) [] (callPost out)) : CallOK cx 207 3 args out := by
  refine call_ok (n := 4) (dfl := [(.int 0 : PyData), (.str (Str.ofString "d") : PyData)]) (tx := q_mpf_neg cx) [Str.ofString "s", Str.ofString "prec", Str.ofString "rnd"] ns_mpf_neg [.int 0 498, .str (Str.ofString "d") 252] hK rfl (by kernel_rfl) (fun us s hu hk => ?_) (fun _ _ _ _ => (.cons (.int _ _) (.cons (.str _ _) (.nil)))) (by rw [List.length_append, hl]; rfl) (fun i x h => ?_) (by decide +kernel) (by decide +kernel) rfl rfl rfl (by decide) (fun fc hcs hrk => ?_) hvc
  · rw [hl] at hu
    obtain ⟨u0, rfl⟩ := len_1 hu
    exact binds_K (K := hd.heap_39 cx.w.params) (hK ▸ hk) rfl rfl rfl rfl rfl
  · exact nth_sub (by decide +kernel) h
  · have l_fninf : fc.cs.names.lookup (Str.ofString "fninf") = some .globalImplicit := by rw [hcs]; rfl
    have l_finf : fc.cs.names.lookup (Str.ofString "finf") = some .globalImplicit := by rw [hcs]; rfl
    have l_normalize : fc.cs.names.lookup (Str.ofString "normalize") = some .globalImplicit := by rw [hcs]; rfl
    exact (SX_cons (SX_unpack (xs := [Str.ofString "sign", Str.ofString "man", Str.ofString "exp", Str.ofString "bc"]) (SE_name (i := 0) rfl) rfl (NameElts.cons (NameElts.cons (NameElts.cons (NameElts.cons NameElts.nil)))) rfl rfl)
  (SX_cons (SX_if (ST_not (ST_val (SE_name (i := 4) rfl))) (SX_cons (SX_if (ST_val (SE_name (i := 5) rfl)) (SX_cons (SX_if (ST_cmp c_eq (SE_name (i := 0) rfl) (SE_glob l_finf (g_finf hK) (r_finf hK)) rfl) (SX_cons (SX_ret (SE_glob l_fninf (g_fninf hK) (r_fninf hK)))
  SX_nil)
  SX_nil)
  (SX_cons (SX_if (ST_cmp c_eq (SE_name (i := 0) rfl) (SE_glob l_fninf (g_fninf hK) (r_fninf hK)) rfl) (SX_cons (SX_ret (SE_glob l_finf (g_finf hK) (r_finf hK)))
  SX_nil)
  SX_nil)
  SX_nil))
  SX_nil)
  (SX_cons (SX_ret (SE_name (i := 0) rfl))
  SX_nil))
  SX_nil)
  (SX_cons (SX_if (ST_not (ST_val (SE_name (i := 1) rfl))) (SX_cons (SX_ret (SE_tup (SEs_cons (SE_bin b_sub SE_int (SE_name (i := 3) rfl)) (SEs_cons (SE_name (i := 4) rfl) (SEs_cons (SE_name (i := 5) rfl) (SEs_cons (SE_name (i := 6) rfl) SEs_nil))))))
  SX_nil)
  SX_nil)
  (SX_cons (SX_ret (SE_callR (n := 3) l_normalize (g_normalize hK) hK rfl hrk (SEs_cons (SE_bin b_sub SE_int (SE_name (i := 3) rfl)) (SEs_cons (SE_name (i := 4) rfl) (SEs_cons (SE_name (i := 5) rfl) (SEs_cons (SE_name (i := 6) rfl) (SEs_cons (SE_name (i := 1) rfl) (SEs_cons (SE_name (i := 2) rfl) SEs_nil))))))))
  SX_nil))))
theorem w_mpf_neg3 (hK : KK cx) {args : List PyData} {out : Except Exn PyData} (hl : args.length = 3) (hvc : q_mpf_neg cx (valSlots (args ++ []) 4) [] (callPost out)) : CallOK cx 207 3 args out := by
  refine call_ok (n := 4) (dfl := []) (tx := q_mpf_neg cx) [Str.ofString "s", Str.ofString "prec", Str.ofString "rnd"] ns_mpf_neg [] hK rfl (by kernel_rfl) (fun us s hu hk => ?_) (fun _ _ _ _ => Rds.nil) (by rw [List.length_append, hl]; rfl) (fun i x h => ?_) (by decide +kernel) (by decide +kernel) rfl rfl rfl (by decide) (fun fc hcs hrk => ?_) hvc
  · rw [hl] at hu
    obtain ⟨u0, u1, u2, rfl⟩ := len_3 hu
    exact binds_K (K := hd.heap_39 cx.w.params) (hK ▸ hk) rfl rfl rfl rfl rfl
  · exact nth_sub (by decide +kernel) h
  · have l_fninf : fc.cs.names.lookup (Str.ofString "fninf") = some .globalImplicit := by rw [hcs]; rfl
    have l_finf : fc.cs.names.lookup (Str.ofString "finf") = some .globalImplicit := by rw [hcs]; rfl
    have l_normalize : fc.cs.names.lookup (Str.ofString "normalize") = some .globalImplicit := by rw [hcs]; rfl
    exact (SX_cons (SX_unpack (xs := [Str.ofString "sign", Str.ofString "man", Str.ofString "exp", Str.ofString "bc"]) (SE_name (i := 0) rfl) rfl (NameElts.cons (NameElts.cons (NameElts.cons (NameElts.cons NameElts.nil)))) rfl rfl)
  (SX_cons (SX_if (ST_not (ST_val (SE_name (i := 4) rfl))) (SX_cons (SX_if (ST_val (SE_name (i := 5) rfl)) (SX_cons (SX_if (ST_cmp c_eq (SE_name (i := 0) rfl) (SE_glob l_finf (g_finf hK) (r_finf hK)) rfl) (SX_cons (SX_ret (SE_glob l_fninf (g_fninf hK) (r_fninf hK)))
  SX_nil)
  SX_nil)
  (SX_cons (SX_if (ST_cmp c_eq (SE_name (i := 0) rfl) (SE_glob l_fninf (g_fninf hK) (r_fninf hK)) rfl) (SX_cons (SX_ret (SE_glob l_finf (g_finf hK) (r_finf hK)))
  SX_nil)
  SX_nil)
  SX_nil))
  SX_nil)
  (SX_cons (SX_ret (SE_name (i := 0) rfl))
  SX_nil))
  SX_nil)
  (SX_cons (SX_if (ST_not (ST_val (SE_name (i := 1) rfl))) (SX_cons (SX_ret (SE_tup (SEs_cons (SE_bin b_sub SE_int (SE_name (i := 3) rfl)) (SEs_cons (SE_name (i := 4) rfl) (SEs_cons (SE_name (i := 5) rfl) (SEs_cons (SE_name (i := 6) rfl) SEs_nil))))))
  SX_nil)
  SX_nil)
  (SX_cons (SX_ret (SE_callR (n := 3) l_normalize (g_normalize hK) hK rfl hrk (SEs_cons (SE_bin b_sub SE_int (SE_name (i := 3) rfl)) (SEs_cons (SE_name (i := 4) rfl) (SEs_cons (SE_name (i := 5) rfl) (SEs_cons (SE_name (i := 6) rfl) (SEs_cons (SE_name (i := 1) rfl) (SEs_cons (SE_name (i := 2) rfl) SEs_nil))))))))
  SX_nil))))

def q_mpf_abs_3 (cx : Cx) : Tx := tSeq (tRet (tCall cx 3 80 (tCons (tInt 0) (tCons (tName 4) (tCons (tName 5) (tCons (tName 6) (tCons (tName 1) (tCons (tName 2) tNil))))))))
  tSkip
def q_mpf_abs_2 (cx : Cx) : Tx := tSeq (tIf (tNotT (tTruth (tName 1))) (tSeq (tIf (tTruth (tName 3)) (tSeq (tRet (tTup (tCons (tInt 0) (tCons (tName 4) (tCons (tName 5) (tCons (tName 6) tNil))))))
  tSkip)
  tSkip)
  (tSeq (tRet (tName 0))
  tSkip))
  tSkip)
  (q_mpf_abs_3 cx)
theorem s_mpf_abs_2 {ρ σ P} (h : ∀ R : Tx, R = q_mpf_abs_3 cx → tSeq (tIf (tNotT (tTruth (tName 1))) (tSeq (tIf (tTruth (tName 3)) (tSeq (tRet (tTup (tCons (tInt 0) (tCons (tName 4) (tCons (tName 5) (tCons (tName 6) tNil))))))
  tSkip)
  tSkip)
  (tSeq (tRet (tName 0))
  tSkip))
  tSkip) R ρ σ P) : q_mpf_abs_2 cx ρ σ P := h _ rfl
def q_mpf_abs_1 (cx : Cx) : Tx := tSeq (tIf (tAndT (tNotT (tTruth (tName 4))) (tAndT (tTruth (tName 5)) tTrue)) (tSeq (tIf (tTest (tBin kEq (tName 0) (tGlob p_fninf))) (tSeq (tRet (tGlob p_finf))
  tSkip)
  tSkip)
  (tSeq (tRet (tName 0))
  tSkip))
  tSkip)
  (q_mpf_abs_2 cx)
theorem s_mpf_abs_1 {ρ σ P} (h : ∀ R : Tx, R = q_mpf_abs_2 cx → tSeq (tIf (tAndT (tNotT (tTruth (tName 4))) (tAndT (tTruth (tName 5)) tTrue)) (tSeq (tIf (tTest (tBin kEq (tName 0) (tGlob p_fninf))) (tSeq (tRet (tGlob p_finf))
  tSkip)
  tSkip)
  (tSeq (tRet (tName 0))
  tSkip))
  tSkip) R ρ σ P) : q_mpf_abs_1 cx ρ σ P := h _ rfl
def q_mpf_abs (cx : Cx) : Tx := tSeq (tUnpack [3, 4, 5, 6] (tName 0))
  (q_mpf_abs_1 cx)
theorem s_mpf_abs {ρ σ P} (h : ∀ R : Tx, R = q_mpf_abs_1 cx → tSeq (tUnpack [3, 4, 5, 6] (tName 0)) R ρ σ P) : q_mpf_abs cx ρ σ P := h _ rfl
abbrev ns_mpf_abs : List Str := [Str.ofString "s", Str.ofString "prec", Str.ofString "rnd", Str.ofString "sign", Str.ofString "man", Str.ofString "exp", Str.ofString "bc"]
theorem w_mpf_abs3 (hK : KK cx) {args : List PyData} {out : Except Exn PyData} (hl : args.length = 3) (hvc : q_mpf_abs cx (valSlots (args ++ []) 4) [] (callPost out)) : CallOK cx 215 3 args out := by
  refine call_ok (n := 4) (dfl := []) (tx := q_mpf_abs cx) [Str.ofString "s", Str.ofString "prec", Str.ofString "rnd"] ns_mpf_abs [] hK rfl (by kernel_rfl) (fun us s hu hk => ?_) (fun _ _ _ _ => Rds.nil) (by rw [List.length_append, hl]; rfl) (fun i x h => ?_) (by decide +kernel) (by decide +kernel) rfl rfl rfl (by decide) (fun fc hcs hrk => ?_) hvc
  · rw [hl] at hu
    obtain ⟨u0, u1, u2, rfl⟩ := len_3 hu
    exact binds_K (K := hd.heap_39 cx.w.params) (hK ▸ hk) rfl rfl rfl rfl rfl
  · exact nth_sub (by decide +kernel) h
  · have l_fninf : fc.cs.names.lookup (Str.ofString "fninf") = some .globalImplicit := by rw [hcs]; rfl
    have l_finf : fc.cs.names.lookup (Str.ofString "finf") = some .globalImplicit := by rw [hcs]; rfl
    have l_normalize : fc.cs.names.lookup (Str.ofString "normalize") = some .globalImplicit := by rw [hcs]; rfl
    exact (SX_cons (SX_unpack (xs := [Str.ofString "sign", Str.ofString "man", Str.ofString "exp", Str.ofString "bc"]) (SE_name (i := 0) rfl) rfl (NameElts.cons (NameElts.cons (NameElts.cons (NameElts.cons NameElts.nil)))) rfl rfl)
  (SX_cons (SX_if (ST_bool (STs_and_cons (ST_not (ST_val (SE_name (i := 4) rfl))) (STs_and_cons (ST_val (SE_name (i := 5) rfl)) STs_and_nil))) (SX_cons (SX_if (ST_cmp c_eq (SE_name (i := 0) rfl) (SE_glob l_fninf (g_fninf hK) (r_fninf hK)) rfl) (SX_cons (SX_ret (SE_glob l_finf (g_finf hK) (r_finf hK)))
  SX_nil)
  SX_nil)
  (SX_cons (SX_ret (SE_name (i := 0) rfl))
  SX_nil))
  SX_nil)
  (SX_cons (SX_if (ST_not (ST_val (SE_name (i := 1) rfl))) (SX_cons (SX_if (ST_val (SE_name (i := 3) rfl)) (SX_cons (SX_ret (SE_tup (SEs_cons SE_int (SEs_cons (SE_name (i := 4) rfl) (SEs_cons (SE_name (i := 5) rfl) (SEs_cons (SE_name (i := 6) rfl) SEs_nil))))))
  SX_nil)
  SX_nil)
  (SX_cons (SX_ret (SE_name (i := 0) rfl))
  SX_nil))
  SX_nil)
  (SX_cons (SX_ret (SE_callR (n := 3) l_normalize (g_normalize hK) hK rfl hrk (SEs_cons SE_int (SEs_cons (SE_name (i := 4) rfl) (SEs_cons (SE_name (i := 5) rfl) (SEs_cons (SE_name (i := 6) rfl) (SEs_cons (SE_name (i := 1) rfl) (SEs_cons (SE_name (i := 2) rfl) SEs_nil))))))))
  SX_nil))))

def q_mpf_sign_2 (cx : Cx) : Tx := tSeq (tRet (tBin kPow (tNeg (tInt 1)) (tName 1)))
  tSkip
def q_mpf_sign_1 (cx : Cx) : Tx := tSeq (tIf (tNotT (tTruth (tName 2))) (tSeq (tIf (tTest (tBin kEq (tName 0) (tGlob p_finf))) (tSeq (tRet (tInt 1))
  tSkip)
  tSkip)
  (tSeq (tIf (tTest (tBin kEq (tName 0) (tGlob p_fninf))) (tSeq (tRet (tNeg (tInt 1)))
  tSkip)
  tSkip)
  (tSeq (tRet (tInt 0))
  tSkip)))
  tSkip)
  (q_mpf_sign_2 cx)
theorem s_mpf_sign_1 {ρ σ P} (h : ∀ R : Tx, R = q_mpf_sign_2 cx → tSeq (tIf (tNotT (tTruth (tName 2))) (tSeq (tIf (tTest (tBin kEq (tName 0) (tGlob p_finf))) (tSeq (tRet (tInt 1))
  tSkip)
  tSkip)
  (tSeq (tIf (tTest (tBin kEq (tName 0) (tGlob p_fninf))) (tSeq (tRet (tNeg (tInt 1)))
  tSkip)
  tSkip)
  (tSeq (tRet (tInt 0))
  tSkip)))
  tSkip) R ρ σ P) : q_mpf_sign_1 cx ρ σ P := h _ rfl
def q_mpf_sign (cx : Cx) : Tx := tSeq (tUnpack [1, 2, 3, 4] (tName 0))
  (q_mpf_sign_1 cx)
theorem s_mpf_sign {ρ σ P} (h : ∀ R : Tx, R = q_mpf_sign_1 cx → tSeq (tUnpack [1, 2, 3, 4] (tName 0)) R ρ σ P) : q_mpf_sign cx ρ σ P := h _ rfl
abbrev ns_mpf_sign : List Str := [Str.ofString "s", Str.ofString "sign", Str.ofString "man", Str.ofString "exp", Str.ofString "bc"]
theorem w_mpf_sign (hK : KK cx) {args : List PyData} {out : Except Exn PyData} (hl : args.length = 1) (hvc : q_mpf_sign cx (valSlots (args ++ []) 4) [] (callPost out)) : CallOK cx 222 0 args out := by
  refine call_ok (n := 4) (dfl := []) (tx := q_mpf_sign cx) [Str.ofString "s"] ns_mpf_sign [] hK rfl (by kernel_rfl) (fun us s hu hk => ?_) (fun _ _ _ _ => Rds.nil) (by rw [List.length_append, hl]; rfl) (fun i x h => ?_) (by decide +kernel) (by decide +kernel) rfl rfl rfl (by decide) (fun fc hcs hrk => ?_) hvc
  · rw [hl] at hu
    obtain ⟨u0, rfl⟩ := len_1 hu
    exact BindsTo.of_eq rfl
  · exact nth_sub (by decide +kernel) h
  · have l_fninf : fc.cs.names.lookup (Str.ofString "fninf") = some .globalImplicit := by rw [hcs]; rfl
    have l_finf : fc.cs.names.lookup (Str.ofString "finf") = some .globalImplicit := by rw [hcs]; rfl
    exact (SX_cons (SX_unpack (xs := [Str.ofString "sign", Str.ofString "man", Str.ofString "exp", Str.ofString "bc"]) (SE_name (i := 0) rfl) rfl (NameElts.cons (NameElts.cons (NameElts.cons (NameElts.cons NameElts.nil)))) rfl rfl)
  (SX_cons (SX_if (ST_not (ST_val (SE_name (i := 2) rfl))) (SX_cons (SX_if (ST_cmp c_eq (SE_name (i := 0) rfl) (SE_glob l_finf (g_finf hK) (r_finf hK)) rfl) (SX_cons (SX_ret SE_int)
  SX_nil)
  SX_nil)
  (SX_cons (SX_if (ST_cmp c_eq (SE_name (i := 0) rfl) (SE_glob l_fninf (g_fninf hK) (r_fninf hK)) rfl) (SX_cons (SX_ret (SE_neg SE_int))
  SX_nil)
  SX_nil)
  (SX_cons (SX_ret SE_int)
  SX_nil)))
  SX_nil)
  (SX_cons (SX_ret (SE_bin b_pow (SE_neg SE_int) (SE_name (i := 1) rfl)))
  SX_nil)))

def q_mpf_add_8 (cx : Cx) : Tx := tSeq (tRet (tName 0))
  tSkip
def q_mpf_add_7 (cx : Cx) : Tx := tSeq (tIf (tTruth (tName 6)) (tSeq (tRet (tCall cx 4 80 (tCons (tName 5) (tCons (tName 6) (tCons (tName 7) (tCons (tName 8) (tCons (tOr (tName 2) (tName 8)) (tCons (tName 3) tNil))))))))
  tSkip)
  tSkip)
  (q_mpf_add_8 cx)
theorem s_mpf_add_7 {ρ σ P} (h : ∀ R : Tx, R = q_mpf_add_8 cx → tSeq (tIf (tTruth (tName 6)) (tSeq (tRet (tCall cx 4 80 (tCons (tName 5) (tCons (tName 6) (tCons (tName 7) (tCons (tName 8) (tCons (tOr (tName 2) (tName 8)) (tCons (tName 3) tNil))))))))
  tSkip)
  tSkip) R ρ σ P) : q_mpf_add_7 cx ρ σ P := h _ rfl
def q_mpf_add_6 (cx : Cx) : Tx := tSeq (tIf (tTruth (tName 11)) (tSeq (tRet (tName 1))
  tSkip)
  tSkip)
  (q_mpf_add_7 cx)
theorem s_mpf_add_6 {ρ σ P} (h : ∀ R : Tx, R = q_mpf_add_7 cx → tSeq (tIf (tTruth (tName 11)) (tSeq (tRet (tName 1))
  tSkip)
  tSkip) R ρ σ P) : q_mpf_add_6 cx ρ σ P := h _ rfl
def q_mpf_add_5 (cx : Cx) : Tx := tSeq (tIf (tNotT (tTruth (tName 6))) (tSeq (tIf (tTruth (tName 7)) (tSeq (tIf (tOrT (tTest (tBin kEq (tName 0) (tName 1))) (tOrT (tTruth (tName 10)) (tOrT (tNotT (tTruth (tName 11))) tFalse))) (tSeq (tRet (tName 0))
  tSkip)
  tSkip)
  (tSeq (tRet (tGlob p_fnan))
  tSkip))
  tSkip)
  (tSeq (tIf (tTruth (tName 10)) (tSeq (tRet (tCall cx 4 80 (tCons (tName 9) (tCons (tName 10) (tCons (tName 11) (tCons (tName 12) (tCons (tOr (tName 2) (tName 12)) (tCons (tName 3) tNil))))))))
  tSkip)
  tSkip)
  (tSeq (tRet (tName 1))
  tSkip)))
  tSkip)
  (q_mpf_add_6 cx)
theorem s_mpf_add_5 {ρ σ P} (h : ∀ R : Tx, R = q_mpf_add_6 cx → tSeq (tIf (tNotT (tTruth (tName 6))) (tSeq (tIf (tTruth (tName 7)) (tSeq (tIf (tOrT (tTest (tBin kEq (tName 0) (tName 1))) (tOrT (tTruth (tName 10)) (tOrT (tNotT (tTruth (tName 11))) tFalse))) (tSeq (tRet (tName 0))
  tSkip)
  tSkip)
  (tSeq (tRet (tGlob p_fnan))
  tSkip))
  tSkip)
  (tSeq (tIf (tTruth (tName 10)) (tSeq (tRet (tCall cx 4 80 (tCons (tName 9) (tCons (tName 10) (tCons (tName 11) (tCons (tName 12) (tCons (tOr (tName 2) (tName 12)) (tCons (tName 3) tNil))))))))
  tSkip)
  tSkip)
  (tSeq (tRet (tName 1))
  tSkip)))
  tSkip) R ρ σ P) : q_mpf_add_5 cx ρ σ P := h _ rfl
def q_mpf_add_4 (cx : Cx) : Tx := tSeq (tIf (tTruth (tName 4)) (tSeq (tSet 1 (tCall cx 4 207 (tCons (tName 1) tNil)))
  tSkip)
  tSkip)
  (q_mpf_add_5 cx)
theorem s_mpf_add_4 {ρ σ P} (h : ∀ R : Tx, R = q_mpf_add_5 cx → tSeq (tIf (tTruth (tName 4)) (tSeq (tSet 1 (tCall cx 4 207 (tCons (tName 1) tNil)))
  tSkip)
  tSkip) R ρ σ P) : q_mpf_add_4 cx ρ σ P := h _ rfl
def q_mpf_add_3 (cx : Cx) : Tx := tSeq (tIf (tAndT (tTruth (tName 6)) (tAndT (tTruth (tName 10)) tTrue)) (tSeq (tSet 13 (tBin kSub (tName 7) (tName 11)))
  (tSeq (tIf (tTruth (tName 13)) (tSeq (tIf (tTest (tBin kGt (tName 13) (tInt 0))) (tSeq (tIf (tAndT (tTest (tBin kGt (tName 13) (tInt 100))) (tAndT (tTruth (tName 2)) tTrue)) (tSeq (tSet 14 (tBin kSub (tBin kSub (tBin kAdd (tName 8) (tName 7)) (tName 12)) (tName 11)))
  (tSeq (tIf (tTest (tBin kGt (tName 14) (tBin kAdd (tName 2) (tInt 4)))) (tSeq (tSet 13 (tBin kAdd (tName 2) (tInt 4)))
  (tSeq (tAug 6 kShl (tName 13))
  (tSeq (tIf (tTest (tBin kEq (tName 9) (tName 5))) (tSeq (tAug 6 kAdd (tInt 1))
  tSkip)
  (tSeq (tAug 6 kSub (tInt 1))
  tSkip))
  (tSeq (tRet (tCall cx 4 80 (tCons (tName 5) (tCons (tName 6) (tCons (tBin kSub (tName 7) (tName 13)) (tCons (tBl (tName 6)) (tCons (tName 2) (tCons (tName 3) tNil))))))))
  tSkip))))
  tSkip)
  tSkip))
  tSkip)
  (tSeq (tIf (tTest (tBin kEq (tName 5) (tName 9))) (tSeq (tSet 15 (tBin kAdd (tName 10) (tBin kShl (tName 6) (tName 13))))
  tSkip)
  (tSeq (tIf (tTruth (tName 5)) (tSeq (tSet 15 (tBin kSub (tName 10) (tBin kShl (tName 6) (tName 13))))
  tSkip)
  (tSeq (tSet 15 (tBin kSub (tBin kShl (tName 6) (tName 13)) (tName 10)))
  tSkip))
  (tSeq (tIf (tTest (tBin kGe (tName 15) (tInt 0))) (tSeq (tSet 5 (tInt 0))
  tSkip)
  (tSeq (tSet 15 (tNeg (tName 15)))
  (tSeq (tSet 5 (tInt 1))
  tSkip)))
  tSkip)))
  (tSeq (tSet 16 (tBl (tName 15)))
  (tSeq (tRet (tCall cx 4 80 (tCons (tName 5) (tCons (tName 15) (tCons (tName 11) (tCons (tName 16) (tCons (tOr (tName 2) (tName 16)) (tCons (tName 3) tNil))))))))
  tSkip))))
  (tSeq (tIf (tTest (tBin kLt (tName 13) (tInt 0))) (tSeq (tIf (tAndT (tTest (tBin kLt (tName 13) (tNeg (tInt 100)))) (tAndT (tTruth (tName 2)) tTrue)) (tSeq (tSet 14 (tBin kSub (tBin kSub (tBin kAdd (tName 12) (tName 11)) (tName 8)) (tName 7)))
  (tSeq (tIf (tTest (tBin kGt (tName 14) (tBin kAdd (tName 2) (tInt 4)))) (tSeq (tSet 13 (tBin kAdd (tName 2) (tInt 4)))
  (tSeq (tAug 10 kShl (tName 13))
  (tSeq (tIf (tTest (tBin kEq (tName 5) (tName 9))) (tSeq (tAug 10 kAdd (tInt 1))
  tSkip)
  (tSeq (tAug 10 kSub (tInt 1))
  tSkip))
  (tSeq (tRet (tCall cx 4 80 (tCons (tName 9) (tCons (tName 10) (tCons (tBin kSub (tName 11) (tName 13)) (tCons (tBl (tName 10)) (tCons (tName 2) (tCons (tName 3) tNil))))))))
  tSkip))))
  tSkip)
  tSkip))
  tSkip)
  (tSeq (tIf (tTest (tBin kEq (tName 5) (tName 9))) (tSeq (tSet 15 (tBin kAdd (tName 6) (tBin kShl (tName 10) (tNeg (tName 13)))))
  tSkip)
  (tSeq (tIf (tTruth (tName 9)) (tSeq (tSet 15 (tBin kSub (tName 6) (tBin kShl (tName 10) (tNeg (tName 13)))))
  tSkip)
  (tSeq (tSet 15 (tBin kSub (tBin kShl (tName 10) (tNeg (tName 13))) (tName 6)))
  tSkip))
  (tSeq (tIf (tTest (tBin kGe (tName 15) (tInt 0))) (tSeq (tSet 5 (tInt 0))
  tSkip)
  (tSeq (tSet 15 (tNeg (tName 15)))
  (tSeq (tSet 5 (tInt 1))
  tSkip)))
  tSkip)))
  (tSeq (tSet 16 (tBl (tName 15)))
  (tSeq (tRet (tCall cx 4 80 (tCons (tName 5) (tCons (tName 15) (tCons (tName 7) (tCons (tName 16) (tCons (tOr (tName 2) (tName 16)) (tCons (tName 3) tNil))))))))
  tSkip))))
  tSkip)
  tSkip))
  tSkip)
  tSkip)
  (tSeq (tIf (tTest (tBin kEq (tName 5) (tName 9))) (tSeq (tSet 15 (tBin kAdd (tName 10) (tName 6)))
  tSkip)
  (tSeq (tIf (tTruth (tName 5)) (tSeq (tSet 15 (tBin kSub (tName 10) (tName 6)))
  tSkip)
  (tSeq (tSet 15 (tBin kSub (tName 6) (tName 10)))
  tSkip))
  (tSeq (tIf (tTest (tBin kGe (tName 15) (tInt 0))) (tSeq (tSet 5 (tInt 0))
  tSkip)
  (tSeq (tSet 15 (tNeg (tName 15)))
  (tSeq (tSet 5 (tInt 1))
  tSkip)))
  tSkip)))
  (tSeq (tSet 16 (tBl (tName 15)))
  (tSeq (tRet (tCall cx 4 80 (tCons (tName 5) (tCons (tName 15) (tCons (tName 11) (tCons (tName 16) (tCons (tOr (tName 2) (tName 16)) (tCons (tName 3) tNil))))))))
  tSkip)))))
  tSkip)
  (q_mpf_add_4 cx)
theorem s_mpf_add_3 {ρ σ P} (h : ∀ R : Tx, R = q_mpf_add_4 cx → tSeq (tIf (tAndT (tTruth (tName 6)) (tAndT (tTruth (tName 10)) tTrue)) (tSeq (tSet 13 (tBin kSub (tName 7) (tName 11)))
  (tSeq (tIf (tTruth (tName 13)) (tSeq (tIf (tTest (tBin kGt (tName 13) (tInt 0))) (tSeq (tIf (tAndT (tTest (tBin kGt (tName 13) (tInt 100))) (tAndT (tTruth (tName 2)) tTrue)) (tSeq (tSet 14 (tBin kSub (tBin kSub (tBin kAdd (tName 8) (tName 7)) (tName 12)) (tName 11)))
  (tSeq (tIf (tTest (tBin kGt (tName 14) (tBin kAdd (tName 2) (tInt 4)))) (tSeq (tSet 13 (tBin kAdd (tName 2) (tInt 4)))
  (tSeq (tAug 6 kShl (tName 13))
  (tSeq (tIf (tTest (tBin kEq (tName 9) (tName 5))) (tSeq (tAug 6 kAdd (tInt 1))
  tSkip)
  (tSeq (tAug 6 kSub (tInt 1))
  tSkip))
  (tSeq (tRet (tCall cx 4 80 (tCons (tName 5) (tCons (tName 6) (tCons (tBin kSub (tName 7) (tName 13)) (tCons (tBl (tName 6)) (tCons (tName 2) (tCons (tName 3) tNil))))))))
  tSkip))))
  tSkip)
  tSkip))
  tSkip)
  (tSeq (tIf (tTest (tBin kEq (tName 5) (tName 9))) (tSeq (tSet 15 (tBin kAdd (tName 10) (tBin kShl (tName 6) (tName 13))))
  tSkip)
  (tSeq (tIf (tTruth (tName 5)) (tSeq (tSet 15 (tBin kSub (tName 10) (tBin kShl (tName 6) (tName 13))))
  tSkip)
  (tSeq (tSet 15 (tBin kSub (tBin kShl (tName 6) (tName 13)) (tName 10)))
  tSkip))
  (tSeq (tIf (tTest (tBin kGe (tName 15) (tInt 0))) (tSeq (tSet 5 (tInt 0))
  tSkip)
  (tSeq (tSet 15 (tNeg (tName 15)))
  (tSeq (tSet 5 (tInt 1))
  tSkip)))
  tSkip)))
  (tSeq (tSet 16 (tBl (tName 15)))
  (tSeq (tRet (tCall cx 4 80 (tCons (tName 5) (tCons (tName 15) (tCons (tName 11) (tCons (tName 16) (tCons (tOr (tName 2) (tName 16)) (tCons (tName 3) tNil))))))))
  tSkip))))
  (tSeq (tIf (tTest (tBin kLt (tName 13) (tInt 0))) (tSeq (tIf (tAndT (tTest (tBin kLt (tName 13) (tNeg (tInt 100)))) (tAndT (tTruth (tName 2)) tTrue)) (tSeq (tSet 14 (tBin kSub (tBin kSub (tBin kAdd (tName 12) (tName 11)) (tName 8)) (tName 7)))
  (tSeq (tIf (tTest (tBin kGt (tName 14) (tBin kAdd (tName 2) (tInt 4)))) (tSeq (tSet 13 (tBin kAdd (tName 2) (tInt 4)))
  (tSeq (tAug 10 kShl (tName 13))
  (tSeq (tIf (tTest (tBin kEq (tName 5) (tName 9))) (tSeq (tAug 10 kAdd (tInt 1))
  tSkip)
  (tSeq (tAug 10 kSub (tInt 1))
  tSkip))
  (tSeq (tRet (tCall cx 4 80 (tCons (tName 9) (tCons (tName 10) (tCons (tBin kSub (tName 11) (tName 13)) (tCons (tBl (tName 10)) (tCons (tName 2) (tCons (tName 3) tNil))))))))
  tSkip))))
  tSkip)
  tSkip))
  tSkip)
  (tSeq (tIf (tTest (tBin kEq (tName 5) (tName 9))) (tSeq (tSet 15 (tBin kAdd (tName 6) (tBin kShl (tName 10) (tNeg (tName 13)))))
  tSkip)
  (tSeq (tIf (tTruth (tName 9)) (tSeq (tSet 15 (tBin kSub (tName 6) (tBin kShl (tName 10) (tNeg (tName 13)))))
  tSkip)
  (tSeq (tSet 15 (tBin kSub (tBin kShl (tName 10) (tNeg (tName 13))) (tName 6)))
  tSkip))
  (tSeq (tIf (tTest (tBin kGe (tName 15) (tInt 0))) (tSeq (tSet 5 (tInt 0))
  tSkip)
  (tSeq (tSet 15 (tNeg (tName 15)))
  (tSeq (tSet 5 (tInt 1))
  tSkip)))
  tSkip)))
  (tSeq (tSet 16 (tBl (tName 15)))
  (tSeq (tRet (tCall cx 4 80 (tCons (tName 5) (tCons (tName 15) (tCons (tName 7) (tCons (tName 16) (tCons (tOr (tName 2) (tName 16)) (tCons (tName 3) tNil))))))))
  tSkip))))
  tSkip)
  tSkip))
  tSkip)
  tSkip)
  (tSeq (tIf (tTest (tBin kEq (tName 5) (tName 9))) (tSeq (tSet 15 (tBin kAdd (tName 10) (tName 6)))
  tSkip)
  (tSeq (tIf (tTruth (tName 5)) (tSeq (tSet 15 (tBin kSub (tName 10) (tName 6)))
  tSkip)
  (tSeq (tSet 15 (tBin kSub (tName 6) (tName 10)))
  tSkip))
  (tSeq (tIf (tTest (tBin kGe (tName 15) (tInt 0))) (tSeq (tSet 5 (tInt 0))
  tSkip)
  (tSeq (tSet 15 (tNeg (tName 15)))
  (tSeq (tSet 5 (tInt 1))
  tSkip)))
  tSkip)))
  (tSeq (tSet 16 (tBl (tName 15)))
  (tSeq (tRet (tCall cx 4 80 (tCons (tName 5) (tCons (tName 15) (tCons (tName 11) (tCons (tName 16) (tCons (tOr (tName 2) (tName 16)) (tCons (tName 3) tNil))))))))
  tSkip)))))
  tSkip) R ρ σ P) : q_mpf_add_3 cx ρ σ P := h _ rfl
def q_mpf_add_2 (cx : Cx) : Tx := tSeq (tAug 9 kXor (tName 4))
  (q_mpf_add_3 cx)
theorem s_mpf_add_2 {ρ σ P} (h : ∀ R : Tx, R = q_mpf_add_3 cx → tSeq (tAug 9 kXor (tName 4)) R ρ σ P) : q_mpf_add_2 cx ρ σ P := h _ rfl
def q_mpf_add_1 (cx : Cx) : Tx := tSeq (tUnpack [9, 10, 11, 12] (tName 1))
  (q_mpf_add_2 cx)
theorem s_mpf_add_1 {ρ σ P} (h : ∀ R : Tx, R = q_mpf_add_2 cx → tSeq (tUnpack [9, 10, 11, 12] (tName 1)) R ρ σ P) : q_mpf_add_1 cx ρ σ P := h _ rfl
def q_mpf_add (cx : Cx) : Tx := tSeq (tUnpack [5, 6, 7, 8] (tName 0))
  (q_mpf_add_1 cx)
theorem s_mpf_add {ρ σ P} (h : ∀ R : Tx, R = q_mpf_add_1 cx → tSeq (tUnpack [5, 6, 7, 8] (tName 0)) R ρ σ P) : q_mpf_add cx ρ σ P := h _ rfl
abbrev ns_mpf_add : List Str := [Str.ofString "s", Str.ofString "t", Str.ofString "prec", Str.ofString "rnd", Str.ofString "_sub", Str.ofString "ssign", Str.ofString "sman", Str.ofString "sexp", Str.ofString "sbc", Str.ofString "tsign", Str.ofString "tman", Str.ofString "texp", Str.ofString "tbc", Str.ofString "offset", Str.ofString "delta", Str.ofString "man", Str.ofString "bc"]
theorem w_mpf_add2 (hK : KK cx) {args : List PyData} {out : Except Exn PyData} (hl : args.length = 2) (hvc : q_mpf_add cx (valSlots (args ++ [(.int 0 : PyData), (.str (Str.ofString "d") : PyData), (.int 0 : PyData)]) 12) [] (callPost out)) : CallOK cx 230 4 args out := by
  refine call_ok (n := 12) (dfl := [(.int 0 : PyData), (.str (Str.ofString "d") : PyData), (.int 0 : PyData)]) (tx := q_mpf_add cx) [Str.ofString "s", Str.ofString "t", Str.ofString "prec", Str.ofString "rnd", Str.ofString "_sub"] ns_mpf_add [.int 0 537, .str (Str.ofString "d") 252, .int 0 538] hK rfl (by kernel_rfl) (fun us s hu hk => ?_) (fun _ _ _ _ => (.cons (.int _ _) (.cons (.str _ _) (.cons (.int _ _) (.nil))))) (by rw [List.length_append, hl]; rfl) (fun i x h => ?_) (by decide +kernel) (by decide +kernel) rfl rfl rfl (by decide) (fun fc hcs hrk => ?_) hvc
  · rw [hl] at hu
    obtain ⟨u0, u1, rfl⟩ := len_2 hu
    exact binds_K (K := hd.heap_39 cx.w.params) (hK ▸ hk) rfl rfl rfl rfl rfl
  · exact nth_sub (by decide +kernel) h
  · have l_normalize : fc.cs.names.lookup (Str.ofString "normalize") = some .globalImplicit := by rw [hcs]; rfl
    have l_mpf_neg : fc.cs.names.lookup (Str.ofString "mpf_neg") = some .globalImplicit := by rw [hcs]; rfl
    have l_fnan : fc.cs.names.lookup (Str.ofString "fnan") = some .globalImplicit := by rw [hcs]; rfl
    exact (SX_cons (SX_unpack (xs := [Str.ofString "ssign", Str.ofString "sman", Str.ofString "sexp", Str.ofString "sbc"]) (SE_name (i := 0) rfl) rfl (NameElts.cons (NameElts.cons (NameElts.cons (NameElts.cons NameElts.nil)))) rfl rfl)
  (SX_cons (SX_unpack (xs := [Str.ofString "tsign", Str.ofString "tman", Str.ofString "texp", Str.ofString "tbc"]) (SE_name (i := 1) rfl) rfl (NameElts.cons (NameElts.cons (NameElts.cons (NameElts.cons NameElts.nil)))) rfl rfl)
  (SX_cons (SX_aug (i := 9) rfl i_xor (SE_name (i := 4) rfl))
  (SX_cons (SX_if (ST_bool (STs_and_cons (ST_val (SE_name (i := 6) rfl)) (STs_and_cons (ST_val (SE_name (i := 10) rfl)) STs_and_nil))) (SX_cons (SX_set (i := 13) rfl (SE_bin b_sub (SE_name (i := 7) rfl) (SE_name (i := 11) rfl)))
  (SX_cons (SX_if (ST_val (SE_name (i := 13) rfl)) (SX_cons (SX_if (ST_cmp c_gt (SE_name (i := 13) rfl) SE_int rfl) (SX_cons (SX_if (ST_bool (STs_and_cons (ST_cmp c_gt (SE_name (i := 13) rfl) SE_int rfl) (STs_and_cons (ST_val (SE_name (i := 2) rfl)) STs_and_nil))) (SX_cons (SX_set (i := 14) rfl (SE_bin b_sub (SE_bin b_sub (SE_bin b_add (SE_name (i := 8) rfl) (SE_name (i := 7) rfl)) (SE_name (i := 12) rfl)) (SE_name (i := 11) rfl)))
  (SX_cons (SX_if (ST_cmp c_gt (SE_name (i := 14) rfl) (SE_bin b_add (SE_name (i := 2) rfl) SE_int) rfl) (SX_cons (SX_set (i := 13) rfl (SE_bin b_add (SE_name (i := 2) rfl) SE_int))
  (SX_cons (SX_aug (i := 6) rfl i_shl (SE_name (i := 13) rfl))
  (SX_cons (SX_if (ST_cmp c_eq (SE_name (i := 9) rfl) (SE_name (i := 5) rfl) rfl) (SX_cons (SX_aug (i := 6) rfl i_add SE_int)
  SX_nil)
  (SX_cons (SX_aug (i := 6) rfl i_sub SE_int)
  SX_nil))
  (SX_cons (SX_ret (SE_callR (n := 4) l_normalize (g_normalize hK) hK rfl hrk (SEs_cons (SE_name (i := 5) rfl) (SEs_cons (SE_name (i := 6) rfl) (SEs_cons (SE_bin b_sub (SE_name (i := 7) rfl) (SE_name (i := 13) rfl)) (SEs_cons (SE_bl (SE_name (i := 6) rfl) rfl rfl) (SEs_cons (SE_name (i := 2) rfl) (SEs_cons (SE_name (i := 3) rfl) SEs_nil))))))))
  SX_nil))))
  SX_nil)
  SX_nil))
  SX_nil)
  (SX_cons (SX_if (ST_cmp c_eq (SE_name (i := 5) rfl) (SE_name (i := 9) rfl) rfl) (SX_cons (SX_set (i := 15) rfl (SE_bin b_add (SE_name (i := 10) rfl) (SE_bin b_shl (SE_name (i := 6) rfl) (SE_name (i := 13) rfl))))
  SX_nil)
  (SX_cons (SX_if (ST_val (SE_name (i := 5) rfl)) (SX_cons (SX_set (i := 15) rfl (SE_bin b_sub (SE_name (i := 10) rfl) (SE_bin b_shl (SE_name (i := 6) rfl) (SE_name (i := 13) rfl))))
  SX_nil)
  (SX_cons (SX_set (i := 15) rfl (SE_bin b_sub (SE_bin b_shl (SE_name (i := 6) rfl) (SE_name (i := 13) rfl)) (SE_name (i := 10) rfl)))
  SX_nil))
  (SX_cons (SX_if (ST_cmp c_ge (SE_name (i := 15) rfl) SE_int rfl) (SX_cons (SX_set (i := 5) rfl SE_int)
  SX_nil)
  (SX_cons (SX_set (i := 15) rfl (SE_neg (SE_name (i := 15) rfl)))
  (SX_cons (SX_set (i := 5) rfl SE_int)
  SX_nil)))
  SX_nil)))
  (SX_cons (SX_set (i := 16) rfl (SE_bl (SE_name (i := 15) rfl) rfl rfl))
  (SX_cons (SX_ret (SE_callR (n := 4) l_normalize (g_normalize hK) hK rfl hrk (SEs_cons (SE_name (i := 5) rfl) (SEs_cons (SE_name (i := 15) rfl) (SEs_cons (SE_name (i := 11) rfl) (SEs_cons (SE_name (i := 16) rfl) (SEs_cons (SE_or (SE_name (i := 2) rfl) (SE_one (SE_name (i := 16) rfl))) (SEs_cons (SE_name (i := 3) rfl) SEs_nil))))))))
  SX_nil))))
  (SX_cons (SX_if (ST_cmp c_lt (SE_name (i := 13) rfl) SE_int rfl) (SX_cons (SX_if (ST_bool (STs_and_cons (ST_cmp c_lt (SE_name (i := 13) rfl) (SE_neg SE_int) rfl) (STs_and_cons (ST_val (SE_name (i := 2) rfl)) STs_and_nil))) (SX_cons (SX_set (i := 14) rfl (SE_bin b_sub (SE_bin b_sub (SE_bin b_add (SE_name (i := 12) rfl) (SE_name (i := 11) rfl)) (SE_name (i := 8) rfl)) (SE_name (i := 7) rfl)))
  (SX_cons (SX_if (ST_cmp c_gt (SE_name (i := 14) rfl) (SE_bin b_add (SE_name (i := 2) rfl) SE_int) rfl) (SX_cons (SX_set (i := 13) rfl (SE_bin b_add (SE_name (i := 2) rfl) SE_int))
  (SX_cons (SX_aug (i := 10) rfl i_shl (SE_name (i := 13) rfl))
  (SX_cons (SX_if (ST_cmp c_eq (SE_name (i := 5) rfl) (SE_name (i := 9) rfl) rfl) (SX_cons (SX_aug (i := 10) rfl i_add SE_int)
  SX_nil)
  (SX_cons (SX_aug (i := 10) rfl i_sub SE_int)
  SX_nil))
  (SX_cons (SX_ret (SE_callR (n := 4) l_normalize (g_normalize hK) hK rfl hrk (SEs_cons (SE_name (i := 9) rfl) (SEs_cons (SE_name (i := 10) rfl) (SEs_cons (SE_bin b_sub (SE_name (i := 11) rfl) (SE_name (i := 13) rfl)) (SEs_cons (SE_bl (SE_name (i := 10) rfl) rfl rfl) (SEs_cons (SE_name (i := 2) rfl) (SEs_cons (SE_name (i := 3) rfl) SEs_nil))))))))
  SX_nil))))
  SX_nil)
  SX_nil))
  SX_nil)
  (SX_cons (SX_if (ST_cmp c_eq (SE_name (i := 5) rfl) (SE_name (i := 9) rfl) rfl) (SX_cons (SX_set (i := 15) rfl (SE_bin b_add (SE_name (i := 6) rfl) (SE_bin b_shl (SE_name (i := 10) rfl) (SE_neg (SE_name (i := 13) rfl)))))
  SX_nil)
  (SX_cons (SX_if (ST_val (SE_name (i := 9) rfl)) (SX_cons (SX_set (i := 15) rfl (SE_bin b_sub (SE_name (i := 6) rfl) (SE_bin b_shl (SE_name (i := 10) rfl) (SE_neg (SE_name (i := 13) rfl)))))
  SX_nil)
  (SX_cons (SX_set (i := 15) rfl (SE_bin b_sub (SE_bin b_shl (SE_name (i := 10) rfl) (SE_neg (SE_name (i := 13) rfl))) (SE_name (i := 6) rfl)))
  SX_nil))
  (SX_cons (SX_if (ST_cmp c_ge (SE_name (i := 15) rfl) SE_int rfl) (SX_cons (SX_set (i := 5) rfl SE_int)
  SX_nil)
  (SX_cons (SX_set (i := 15) rfl (SE_neg (SE_name (i := 15) rfl)))
  (SX_cons (SX_set (i := 5) rfl SE_int)
  SX_nil)))
  SX_nil)))
  (SX_cons (SX_set (i := 16) rfl (SE_bl (SE_name (i := 15) rfl) rfl rfl))
  (SX_cons (SX_ret (SE_callR (n := 4) l_normalize (g_normalize hK) hK rfl hrk (SEs_cons (SE_name (i := 5) rfl) (SEs_cons (SE_name (i := 15) rfl) (SEs_cons (SE_name (i := 7) rfl) (SEs_cons (SE_name (i := 16) rfl) (SEs_cons (SE_or (SE_name (i := 2) rfl) (SE_one (SE_name (i := 16) rfl))) (SEs_cons (SE_name (i := 3) rfl) SEs_nil))))))))
  SX_nil))))
  SX_nil)
  SX_nil))
  SX_nil)
  SX_nil)
  (SX_cons (SX_if (ST_cmp c_eq (SE_name (i := 5) rfl) (SE_name (i := 9) rfl) rfl) (SX_cons (SX_set (i := 15) rfl (SE_bin b_add (SE_name (i := 10) rfl) (SE_name (i := 6) rfl)))
  SX_nil)
  (SX_cons (SX_if (ST_val (SE_name (i := 5) rfl)) (SX_cons (SX_set (i := 15) rfl (SE_bin b_sub (SE_name (i := 10) rfl) (SE_name (i := 6) rfl)))
  SX_nil)
  (SX_cons (SX_set (i := 15) rfl (SE_bin b_sub (SE_name (i := 6) rfl) (SE_name (i := 10) rfl)))
  SX_nil))
  (SX_cons (SX_if (ST_cmp c_ge (SE_name (i := 15) rfl) SE_int rfl) (SX_cons (SX_set (i := 5) rfl SE_int)
  SX_nil)
  (SX_cons (SX_set (i := 15) rfl (SE_neg (SE_name (i := 15) rfl)))
  (SX_cons (SX_set (i := 5) rfl SE_int)
  SX_nil)))
  SX_nil)))
  (SX_cons (SX_set (i := 16) rfl (SE_bl (SE_name (i := 15) rfl) rfl rfl))
  (SX_cons (SX_ret (SE_callR (n := 4) l_normalize (g_normalize hK) hK rfl hrk (SEs_cons (SE_name (i := 5) rfl) (SEs_cons (SE_name (i := 15) rfl) (SEs_cons (SE_name (i := 11) rfl) (SEs_cons (SE_name (i := 16) rfl) (SEs_cons (SE_or (SE_name (i := 2) rfl) (SE_one (SE_name (i := 16) rfl))) (SEs_cons (SE_name (i := 3) rfl) SEs_nil))))))))
  SX_nil)))))
  SX_nil)
  (SX_cons (SX_if (ST_val (SE_name (i := 4) rfl)) (SX_cons (SX_set (i := 1) rfl (SE_callR (n := 4) l_mpf_neg (g_mpf_neg hK) hK rfl hrk (SEs_cons (SE_name (i := 1) rfl) SEs_nil)))
  SX_nil)
  SX_nil)
  (SX_cons (SX_if (ST_not (ST_val (SE_name (i := 6) rfl))) (SX_cons (SX_if (ST_val (SE_name (i := 7) rfl)) (SX_cons (SX_if (ST_bool (STs_or_cons (ST_cmp c_eq (SE_name (i := 0) rfl) (SE_name (i := 1) rfl) rfl) (STs_or_cons (ST_val (SE_name (i := 10) rfl)) (STs_or_cons (ST_not (ST_val (SE_name (i := 11) rfl))) STs_or_nil)))) (SX_cons (SX_ret (SE_name (i := 0) rfl))
  SX_nil)
  SX_nil)
  (SX_cons (SX_ret (SE_glob l_fnan (g_fnan hK) (r_fnan hK)))
  SX_nil))
  SX_nil)
  (SX_cons (SX_if (ST_val (SE_name (i := 10) rfl)) (SX_cons (SX_ret (SE_callR (n := 4) l_normalize (g_normalize hK) hK rfl hrk (SEs_cons (SE_name (i := 9) rfl) (SEs_cons (SE_name (i := 10) rfl) (SEs_cons (SE_name (i := 11) rfl) (SEs_cons (SE_name (i := 12) rfl) (SEs_cons (SE_or (SE_name (i := 2) rfl) (SE_one (SE_name (i := 12) rfl))) (SEs_cons (SE_name (i := 3) rfl) SEs_nil))))))))
  SX_nil)
  SX_nil)
  (SX_cons (SX_ret (SE_name (i := 1) rfl))
  SX_nil)))
  SX_nil)
  (SX_cons (SX_if (ST_val (SE_name (i := 11) rfl)) (SX_cons (SX_ret (SE_name (i := 1) rfl))
  SX_nil)
  SX_nil)
  (SX_cons (SX_if (ST_val (SE_name (i := 6) rfl)) (SX_cons (SX_ret (SE_callR (n := 4) l_normalize (g_normalize hK) hK rfl hrk (SEs_cons (SE_name (i := 5) rfl) (SEs_cons (SE_name (i := 6) rfl) (SEs_cons (SE_name (i := 7) rfl) (SEs_cons (SE_name (i := 8) rfl) (SEs_cons (SE_or (SE_name (i := 2) rfl) (SE_one (SE_name (i := 8) rfl))) (SEs_cons (SE_name (i := 3) rfl) SEs_nil))))))))
  SX_nil)
  SX_nil)
  (SX_cons (SX_ret (SE_name (i := 0) rfl))
  SX_nil)))))))))
theorem w_mpf_add4 (hK : KK cx) {args : List PyData} {out : Except Exn PyData} (hl : args.length = 4) (hvc : q_mpf_add cx (valSlots (args ++ [(.int 0 : PyData)]) 12) [] (callPost out)) : CallOK cx 230 4 args out := by
  refine call_ok (n := 12) (dfl := [(.int 0 : PyData)]) (tx := q_mpf_add cx) [Str.ofString "s", Str.ofString "t", Str.ofString "prec", Str.ofString "rnd", Str.ofString "_sub"] ns_mpf_add [.int 0 538] hK rfl (by kernel_rfl) (fun us s hu hk => ?_) (fun _ _ _ _ => (.cons (.int _ _) (.nil))) (by rw [List.length_append, hl]; rfl) (fun i x h => ?_) (by decide +kernel) (by decide +kernel) rfl rfl rfl (by decide) (fun fc hcs hrk => ?_) hvc
  · rw [hl] at hu
    obtain ⟨u0, u1, u2, u3, rfl⟩ := len_4 hu
    exact binds_K (K := hd.heap_39 cx.w.params) (hK ▸ hk) rfl rfl rfl rfl rfl
  · exact nth_sub (by decide +kernel) h
  · have l_normalize : fc.cs.names.lookup (Str.ofString "normalize") = some .globalImplicit := by rw [hcs]; rfl
    have l_mpf_neg : fc.cs.names.lookup (Str.ofString "mpf_neg") = some .globalImplicit := by rw [hcs]; rfl
    have l_fnan : fc.cs.names.lookup (Str.ofString "fnan") = some .globalImplicit := by rw [hcs]; rfl
    exact (SX_cons (SX_unpack (xs := [Str.ofString "ssign", Str.ofString "sman", Str.ofString "sexp", Str.ofString "sbc"]) (SE_name (i := 0) rfl) rfl (NameElts.cons (NameElts.cons (NameElts.cons (NameElts.cons NameElts.nil)))) rfl rfl)
  (SX_cons (SX_unpack (xs := [Str.ofString "tsign", Str.ofString "tman", Str.ofString "texp", Str.ofString "tbc"]) (SE_name (i := 1) rfl) rfl (NameElts.cons (NameElts.cons (NameElts.cons (NameElts.cons NameElts.nil)))) rfl rfl)
  (SX_cons (SX_aug (i := 9) rfl i_xor (SE_name (i := 4) rfl))
  (SX_cons (SX_if (ST_bool (STs_and_cons (ST_val (SE_name (i := 6) rfl)) (STs_and_cons (ST_val (SE_name (i := 10) rfl)) STs_and_nil))) (SX_cons (SX_set (i := 13) rfl (SE_bin b_sub (SE_name (i := 7) rfl) (SE_name (i := 11) rfl)))
  (SX_cons (SX_if (ST_val (SE_name (i := 13) rfl)) (SX_cons (SX_if (ST_cmp c_gt (SE_name (i := 13) rfl) SE_int rfl) (SX_cons (SX_if (ST_bool (STs_and_cons (ST_cmp c_gt (SE_name (i := 13) rfl) SE_int rfl) (STs_and_cons (ST_val (SE_name (i := 2) rfl)) STs_and_nil))) (SX_cons (SX_set (i := 14) rfl (SE_bin b_sub (SE_bin b_sub (SE_bin b_add (SE_name (i := 8) rfl) (SE_name (i := 7) rfl)) (SE_name (i := 12) rfl)) (SE_name (i := 11) rfl)))
  (SX_cons (SX_if (ST_cmp c_gt (SE_name (i := 14) rfl) (SE_bin b_add (SE_name (i := 2) rfl) SE_int) rfl) (SX_cons (SX_set (i := 13) rfl (SE_bin b_add (SE_name (i := 2) rfl) SE_int))
  (SX_cons (SX_aug (i := 6) rfl i_shl (SE_name (i := 13) rfl))
  (SX_cons (SX_if (ST_cmp c_eq (SE_name (i := 9) rfl) (SE_name (i := 5) rfl) rfl) (SX_cons (SX_aug (i := 6) rfl i_add SE_int)
  SX_nil)
  (SX_cons (SX_aug (i := 6) rfl i_sub SE_int)
  SX_nil))
  (SX_cons (SX_ret (SE_callR (n := 4) l_normalize (g_normalize hK) hK rfl hrk (SEs_cons (SE_name (i := 5) rfl) (SEs_cons (SE_name (i := 6) rfl) (SEs_cons (SE_bin b_sub (SE_name (i := 7) rfl) (SE_name (i := 13) rfl)) (SEs_cons (SE_bl (SE_name (i := 6) rfl) rfl rfl) (SEs_cons (SE_name (i := 2) rfl) (SEs_cons (SE_name (i := 3) rfl) SEs_nil))))))))
  SX_nil))))
  SX_nil)
  SX_nil))
  SX_nil)
  (SX_cons (SX_if (ST_cmp c_eq (SE_name (i := 5) rfl) (SE_name (i := 9) rfl) rfl) (SX_cons (SX_set (i := 15) rfl (SE_bin b_add (SE_name (i := 10) rfl) (SE_bin b_shl (SE_name (i := 6) rfl) (SE_name (i := 13) rfl))))
  SX_nil)
  (SX_cons (SX_if (ST_val (SE_name (i := 5) rfl)) (SX_cons (SX_set (i := 15) rfl (SE_bin b_sub (SE_name (i := 10) rfl) (SE_bin b_shl (SE_name (i := 6) rfl) (SE_name (i := 13) rfl))))
  SX_nil)
  (SX_cons (SX_set (i := 15) rfl (SE_bin b_sub (SE_bin b_shl (SE_name (i := 6) rfl) (SE_name (i := 13) rfl)) (SE_name (i := 10) rfl)))
  SX_nil))
  (SX_cons (SX_if (ST_cmp c_ge (SE_name (i := 15) rfl) SE_int rfl) (SX_cons (SX_set (i := 5) rfl SE_int)
  SX_nil)
  (SX_cons (SX_set (i := 15) rfl (SE_neg (SE_name (i := 15) rfl)))
  (SX_cons (SX_set (i := 5) rfl SE_int)
  SX_nil)))
  SX_nil)))
  (SX_cons (SX_set (i := 16) rfl (SE_bl (SE_name (i := 15) rfl) rfl rfl))
  (SX_cons (SX_ret (SE_callR (n := 4) l_normalize (g_normalize hK) hK rfl hrk (SEs_cons (SE_name (i := 5) rfl) (SEs_cons (SE_name (i := 15) rfl) (SEs_cons (SE_name (i := 11) rfl) (SEs_cons (SE_name (i := 16) rfl) (SEs_cons (SE_or (SE_name (i := 2) rfl) (SE_one (SE_name (i := 16) rfl))) (SEs_cons (SE_name (i := 3) rfl) SEs_nil))))))))
  SX_nil))))
  (SX_cons (SX_if (ST_cmp c_lt (SE_name (i := 13) rfl) SE_int rfl) (SX_cons (SX_if (ST_bool (STs_and_cons (ST_cmp c_lt (SE_name (i := 13) rfl) (SE_neg SE_int) rfl) (STs_and_cons (ST_val (SE_name (i := 2) rfl)) STs_and_nil))) (SX_cons (SX_set (i := 14) rfl (SE_bin b_sub (SE_bin b_sub (SE_bin b_add (SE_name (i := 12) rfl) (SE_name (i := 11) rfl)) (SE_name (i := 8) rfl)) (SE_name (i := 7) rfl)))
  (SX_cons (SX_if (ST_cmp c_gt (SE_name (i := 14) rfl) (SE_bin b_add (SE_name (i := 2) rfl) SE_int) rfl) (SX_cons (SX_set (i := 13) rfl (SE_bin b_add (SE_name (i := 2) rfl) SE_int))
  (SX_cons (SX_aug (i := 10) rfl i_shl (SE_name (i := 13) rfl))
  (SX_cons (SX_if (ST_cmp c_eq (SE_name (i := 5) rfl) (SE_name (i := 9) rfl) rfl) (SX_cons (SX_aug (i := 10) rfl i_add SE_int)
  SX_nil)
  (SX_cons (SX_aug (i := 10) rfl i_sub SE_int)
  SX_nil))
  (SX_cons (SX_ret (SE_callR (n := 4) l_normalize (g_normalize hK) hK rfl hrk (SEs_cons (SE_name (i := 9) rfl) (SEs_cons (SE_name (i := 10) rfl) (SEs_cons (SE_bin b_sub (SE_name (i := 11) rfl) (SE_name (i := 13) rfl)) (SEs_cons (SE_bl (SE_name (i := 10) rfl) rfl rfl) (SEs_cons (SE_name (i := 2) rfl) (SEs_cons (SE_name (i := 3) rfl) SEs_nil))))))))
  SX_nil))))
  SX_nil)
  SX_nil))
  SX_nil)
  (SX_cons (SX_if (ST_cmp c_eq (SE_name (i := 5) rfl) (SE_name (i := 9) rfl) rfl) (SX_cons (SX_set (i := 15) rfl (SE_bin b_add (SE_name (i := 6) rfl) (SE_bin b_shl (SE_name (i := 10) rfl) (SE_neg (SE_name (i := 13) rfl)))))
  SX_nil)
  (SX_cons (SX_if (ST_val (SE_name (i := 9) rfl)) (SX_cons (SX_set (i := 15) rfl (SE_bin b_sub (SE_name (i := 6) rfl) (SE_bin b_shl (SE_name (i := 10) rfl) (SE_neg (SE_name (i := 13) rfl)))))
  SX_nil)
  (SX_cons (SX_set (i := 15) rfl (SE_bin b_sub (SE_bin b_shl (SE_name (i := 10) rfl) (SE_neg (SE_name (i := 13) rfl))) (SE_name (i := 6) rfl)))
  SX_nil))
  (SX_cons (SX_if (ST_cmp c_ge (SE_name (i := 15) rfl) SE_int rfl) (SX_cons (SX_set (i := 5) rfl SE_int)
  SX_nil)
  (SX_cons (SX_set (i := 15) rfl (SE_neg (SE_name (i := 15) rfl)))
  (SX_cons (SX_set (i := 5) rfl SE_int)
  SX_nil)))
  SX_nil)))
  (SX_cons (SX_set (i := 16) rfl (SE_bl (SE_name (i := 15) rfl) rfl rfl))
  (SX_cons (SX_ret (SE_callR (n := 4) l_normalize (g_normalize hK) hK rfl hrk (SEs_cons (SE_name (i := 5) rfl) (SEs_cons (SE_name (i := 15) rfl) (SEs_cons (SE_name (i := 7) rfl) (SEs_cons (SE_name (i := 16) rfl) (SEs_cons (SE_or (SE_name (i := 2) rfl) (SE_one (SE_name (i := 16) rfl))) (SEs_cons (SE_name (i := 3) rfl) SEs_nil))))))))
  SX_nil))))
  SX_nil)
  SX_nil))
  SX_nil)
  SX_nil)
  (SX_cons (SX_if (ST_cmp c_eq (SE_name (i := 5) rfl) (SE_name (i := 9) rfl) rfl) (SX_cons (SX_set (i := 15) rfl (SE_bin b_add (SE_name (i := 10) rfl) (SE_name (i := 6) rfl)))
  SX_nil)
  (SX_cons (SX_if (ST_val (SE_name (i := 5) rfl)) (SX_cons (SX_set (i := 15) rfl (SE_bin b_sub (SE_name (i := 10) rfl) (SE_name (i := 6) rfl)))
  SX_nil)
  (SX_cons (SX_set (i := 15) rfl (SE_bin b_sub (SE_name (i := 6) rfl) (SE_name (i := 10) rfl)))
  SX_nil))
  (SX_cons (SX_if (ST_cmp c_ge (SE_name (i := 15) rfl) SE_int rfl) (SX_cons (SX_set (i := 5) rfl SE_int)
  SX_nil)
  (SX_cons (SX_set (i := 15) rfl (SE_neg (SE_name (i := 15) rfl)))
  (SX_cons (SX_set (i := 5) rfl SE_int)
  SX_nil)))
  SX_nil)))
  (SX_cons (SX_set (i := 16) rfl (SE_bl (SE_name (i := 15) rfl) rfl rfl))
  (SX_cons (SX_ret (SE_callR (n := 4) l_normalize (g_normalize hK) hK rfl hrk (SEs_cons (SE_name (i := 5) rfl) (SEs_cons (SE_name (i := 15) rfl) (SEs_cons (SE_name (i := 11) rfl) (SEs_cons (SE_name (i := 16) rfl) (SEs_cons (SE_or (SE_name (i := 2) rfl) (SE_one (SE_name (i := 16) rfl))) (SEs_cons (SE_name (i := 3) rfl) SEs_nil))))))))
  SX_nil)))))
  SX_nil)
  (SX_cons (SX_if (ST_val (SE_name (i := 4) rfl)) (SX_cons (SX_set (i := 1) rfl (SE_callR (n := 4) l_mpf_neg (g_mpf_neg hK) hK rfl hrk (SEs_cons (SE_name (i := 1) rfl) SEs_nil)))
  SX_nil)
  SX_nil)
  (SX_cons (SX_if (ST_not (ST_val (SE_name (i := 6) rfl))) (SX_cons (SX_if (ST_val (SE_name (i := 7) rfl)) (SX_cons (SX_if (ST_bool (STs_or_cons (ST_cmp c_eq (SE_name (i := 0) rfl) (SE_name (i := 1) rfl) rfl) (STs_or_cons (ST_val (SE_name (i := 10) rfl)) (STs_or_cons (ST_not (ST_val (SE_name (i := 11) rfl))) STs_or_nil)))) (SX_cons (SX_ret (SE_name (i := 0) rfl))
  SX_nil)
  SX_nil)
  (SX_cons (SX_ret (SE_glob l_fnan (g_fnan hK) (r_fnan hK)))
  SX_nil))
  SX_nil)
  (SX_cons (SX_if (ST_val (SE_name (i := 10) rfl)) (SX_cons (SX_ret (SE_callR (n := 4) l_normalize (g_normalize hK) hK rfl hrk (SEs_cons (SE_name (i := 9) rfl) (SEs_cons (SE_name (i := 10) rfl) (SEs_cons (SE_name (i := 11) rfl) (SEs_cons (SE_name (i := 12) rfl) (SEs_cons (SE_or (SE_name (i := 2) rfl) (SE_one (SE_name (i := 12) rfl))) (SEs_cons (SE_name (i := 3) rfl) SEs_nil))))))))
  SX_nil)
  SX_nil)
  (SX_cons (SX_ret (SE_name (i := 1) rfl))
  SX_nil)))
  SX_nil)
  (SX_cons (SX_if (ST_val (SE_name (i := 11) rfl)) (SX_cons (SX_ret (SE_name (i := 1) rfl))
  SX_nil)
  SX_nil)
  (SX_cons (SX_if (ST_val (SE_name (i := 6) rfl)) (SX_cons (SX_ret (SE_callR (n := 4) l_normalize (g_normalize hK) hK rfl hrk (SEs_cons (SE_name (i := 5) rfl) (SEs_cons (SE_name (i := 6) rfl) (SEs_cons (SE_name (i := 7) rfl) (SEs_cons (SE_name (i := 8) rfl) (SEs_cons (SE_or (SE_name (i := 2) rfl) (SE_one (SE_name (i := 8) rfl))) (SEs_cons (SE_name (i := 3) rfl) SEs_nil))))))))
  SX_nil)
  SX_nil)
  (SX_cons (SX_ret (SE_name (i := 0) rfl))
  SX_nil)))))))))
theorem w_mpf_add5 (hK : KK cx) {args : List PyData} {out : Except Exn PyData} (hl : args.length = 5) (hvc : q_mpf_add cx (valSlots (args ++ []) 12) [] (callPost out)) : CallOK cx 230 4 args out := by
  refine call_ok (n := 12) (dfl := []) (tx := q_mpf_add cx) [Str.ofString "s", Str.ofString "t", Str.ofString "prec", Str.ofString "rnd", Str.ofString "_sub"] ns_mpf_add [] hK rfl (by kernel_rfl) (fun us s hu hk => ?_) (fun _ _ _ _ => Rds.nil) (by rw [List.length_append, hl]; rfl) (fun i x h => ?_) (by decide +kernel) (by decide +kernel) rfl rfl rfl (by decide) (fun fc hcs hrk => ?_) hvc
  · rw [hl] at hu
    obtain ⟨u0, u1, u2, u3, u4, rfl⟩ := len_5 hu
    exact binds_K (K := hd.heap_39 cx.w.params) (hK ▸ hk) rfl rfl rfl rfl rfl
  · exact nth_sub (by decide +kernel) h
  · have l_normalize : fc.cs.names.lookup (Str.ofString "normalize") = some .globalImplicit := by rw [hcs]; rfl
    have l_mpf_neg : fc.cs.names.lookup (Str.ofString "mpf_neg") = some .globalImplicit := by rw [hcs]; rfl
    have l_fnan : fc.cs.names.lookup (Str.ofString "fnan") = some .globalImplicit := by rw [hcs]; rfl
    exact (SX_cons (SX_unpack (xs := [Str.ofString "ssign", Str.ofString "sman", Str.ofString "sexp", Str.ofString "sbc"]) (SE_name (i := 0) rfl) rfl (NameElts.cons (NameElts.cons (NameElts.cons (NameElts.cons NameElts.nil)))) rfl rfl)
  (SX_cons (SX_unpack (xs := [Str.ofString "tsign", Str.ofString "tman", Str.ofString "texp", Str.ofString "tbc"]) (SE_name (i := 1) rfl) rfl (NameElts.cons (NameElts.cons (NameElts.cons (NameElts.cons NameElts.nil)))) rfl rfl)
  (SX_cons (SX_aug (i := 9) rfl i_xor (SE_name (i := 4) rfl))
  (SX_cons (SX_if (ST_bool (STs_and_cons (ST_val (SE_name (i := 6) rfl)) (STs_and_cons (ST_val (SE_name (i := 10) rfl)) STs_and_nil))) (SX_cons (SX_set (i := 13) rfl (SE_bin b_sub (SE_name (i := 7) rfl) (SE_name (i := 11) rfl)))
  (SX_cons (SX_if (ST_val (SE_name (i := 13) rfl)) (SX_cons (SX_if (ST_cmp c_gt (SE_name (i := 13) rfl) SE_int rfl) (SX_cons (SX_if (ST_bool (STs_and_cons (ST_cmp c_gt (SE_name (i := 13) rfl) SE_int rfl) (STs_and_cons (ST_val (SE_name (i := 2) rfl)) STs_and_nil))) (SX_cons (SX_set (i := 14) rfl (SE_bin b_sub (SE_bin b_sub (SE_bin b_add (SE_name (i := 8) rfl) (SE_name (i := 7) rfl)) (SE_name (i := 12) rfl)) (SE_name (i := 11) rfl)))
  (SX_cons (SX_if (ST_cmp c_gt (SE_name (i := 14) rfl) (SE_bin b_add (SE_name (i := 2) rfl) SE_int) rfl) (SX_cons (SX_set (i := 13) rfl (SE_bin b_add (SE_name (i := 2) rfl) SE_int))
  (SX_cons (SX_aug (i := 6) rfl i_shl (SE_name (i := 13) rfl))
  (SX_cons (SX_if (ST_cmp c_eq (SE_name (i := 9) rfl) (SE_name (i := 5) rfl) rfl) (SX_cons (SX_aug (i := 6) rfl i_add SE_int)
  SX_nil)
  (SX_cons (SX_aug (i := 6) rfl i_sub SE_int)
  SX_nil))
  (SX_cons (SX_ret (SE_callR (n := 4) l_normalize (g_normalize hK) hK rfl hrk (SEs_cons (SE_name (i := 5) rfl) (SEs_cons (SE_name (i := 6) rfl) (SEs_cons (SE_bin b_sub (SE_name (i := 7) rfl) (SE_name (i := 13) rfl)) (SEs_cons (SE_bl (SE_name (i := 6) rfl) rfl rfl) (SEs_cons (SE_name (i := 2) rfl) (SEs_cons (SE_name (i := 3) rfl) SEs_nil))))))))
  SX_nil))))
  SX_nil)
  SX_nil))
  SX_nil)
  (SX_cons (SX_if (ST_cmp c_eq (SE_name (i := 5) rfl) (SE_name (i := 9) rfl) rfl) (SX_cons (SX_set (i := 15) rfl (SE_bin b_add (SE_name (i := 10) rfl) (SE_bin b_shl (SE_name (i := 6) rfl) (SE_name (i := 13) rfl))))
  SX_nil)
  (SX_cons (SX_if (ST_val (SE_name (i := 5) rfl)) (SX_cons (SX_set (i := 15) rfl (SE_bin b_sub (SE_name (i := 10) rfl) (SE_bin b_shl (SE_name (i := 6) rfl) (SE_name (i := 13) rfl))))
  SX_nil)
  (SX_cons (SX_set (i := 15) rfl (SE_bin b_sub (SE_bin b_shl (SE_name (i := 6) rfl) (SE_name (i := 13) rfl)) (SE_name (i := 10) rfl)))
  SX_nil))
  (SX_cons (SX_if (ST_cmp c_ge (SE_name (i := 15) rfl) SE_int rfl) (SX_cons (SX_set (i := 5) rfl SE_int)
  SX_nil)
  (SX_cons (SX_set (i := 15) rfl (SE_neg (SE_name (i := 15) rfl)))
  (SX_cons (SX_set (i := 5) rfl SE_int)
  SX_nil)))
  SX_nil)))
  (SX_cons (SX_set (i := 16) rfl (SE_bl (SE_name (i := 15) rfl) rfl rfl))
  (SX_cons (SX_ret (SE_callR (n := 4) l_normalize (g_normalize hK) hK rfl hrk (SEs_cons (SE_name (i := 5) rfl) (SEs_cons (SE_name (i := 15) rfl) (SEs_cons (SE_name (i := 11) rfl) (SEs_cons (SE_name (i := 16) rfl) (SEs_cons (SE_or (SE_name (i := 2) rfl) (SE_one (SE_name (i := 16) rfl))) (SEs_cons (SE_name (i := 3) rfl) SEs_nil))))))))
  SX_nil))))
  (SX_cons (SX_if (ST_cmp c_lt (SE_name (i := 13) rfl) SE_int rfl) (SX_cons (SX_if (ST_bool (STs_and_cons (ST_cmp c_lt (SE_name (i := 13) rfl) (SE_neg SE_int) rfl) (STs_and_cons (ST_val (SE_name (i := 2) rfl)) STs_and_nil))) (SX_cons (SX_set (i := 14) rfl (SE_bin b_sub (SE_bin b_sub (SE_bin b_add (SE_name (i := 12) rfl) (SE_name (i := 11) rfl)) (SE_name (i := 8) rfl)) (SE_name (i := 7) rfl)))
  (SX_cons (SX_if (ST_cmp c_gt (SE_name (i := 14) rfl) (SE_bin b_add (SE_name (i := 2) rfl) SE_int) rfl) (SX_cons (SX_set (i := 13) rfl (SE_bin b_add (SE_name (i := 2) rfl) SE_int))
  (SX_cons (SX_aug (i := 10) rfl i_shl (SE_name (i := 13) rfl))
  (SX_cons (SX_if (ST_cmp c_eq (SE_name (i := 5) rfl) (SE_name (i := 9) rfl) rfl) (SX_cons (SX_aug (i := 10) rfl i_add SE_int)
  SX_nil)
  (SX_cons (SX_aug (i := 10) rfl i_sub SE_int)
  SX_nil))
  (SX_cons (SX_ret (SE_callR (n := 4) l_normalize (g_normalize hK) hK rfl hrk (SEs_cons (SE_name (i := 9) rfl) (SEs_cons (SE_name (i := 10) rfl) (SEs_cons (SE_bin b_sub (SE_name (i := 11) rfl) (SE_name (i := 13) rfl)) (SEs_cons (SE_bl (SE_name (i := 10) rfl) rfl rfl) (SEs_cons (SE_name (i := 2) rfl) (SEs_cons (SE_name (i := 3) rfl) SEs_nil))))))))
  SX_nil))))
  SX_nil)
  SX_nil))
  SX_nil)
  (SX_cons (SX_if (ST_cmp c_eq (SE_name (i := 5) rfl) (SE_name (i := 9) rfl) rfl) (SX_cons (SX_set (i := 15) rfl (SE_bin b_add (SE_name (i := 6) rfl) (SE_bin b_shl (SE_name (i := 10) rfl) (SE_neg (SE_name (i := 13) rfl)))))
  SX_nil)
  (SX_cons (SX_if (ST_val (SE_name (i := 9) rfl)) (SX_cons (SX_set (i := 15) rfl (SE_bin b_sub (SE_name (i := 6) rfl) (SE_bin b_shl (SE_name (i := 10) rfl) (SE_neg (SE_name (i := 13) rfl)))))
  SX_nil)
  (SX_cons (SX_set (i := 15) rfl (SE_bin b_sub (SE_bin b_shl (SE_name (i := 10) rfl) (SE_neg (SE_name (i := 13) rfl))) (SE_name (i := 6) rfl)))
  SX_nil))
  (SX_cons (SX_if (ST_cmp c_ge (SE_name (i := 15) rfl) SE_int rfl) (SX_cons (SX_set (i := 5) rfl SE_int)
  SX_nil)
  (SX_cons (SX_set (i := 15) rfl (SE_neg (SE_name (i := 15) rfl)))
  (SX_cons (SX_set (i := 5) rfl SE_int)
  SX_nil)))
  SX_nil)))
  (SX_cons (SX_set (i := 16) rfl (SE_bl (SE_name (i := 15) rfl) rfl rfl))
  (SX_cons (SX_ret (SE_callR (n := 4) l_normalize (g_normalize hK) hK rfl hrk (SEs_cons (SE_name (i := 5) rfl) (SEs_cons (SE_name (i := 15) rfl) (SEs_cons (SE_name (i := 7) rfl) (SEs_cons (SE_name (i := 16) rfl) (SEs_cons (SE_or (SE_name (i := 2) rfl) (SE_one (SE_name (i := 16) rfl))) (SEs_cons (SE_name (i := 3) rfl) SEs_nil))))))))
  SX_nil))))
  SX_nil)
  SX_nil))
  SX_nil)
  SX_nil)
  (SX_cons (SX_if (ST_cmp c_eq (SE_name (i := 5) rfl) (SE_name (i := 9) rfl) rfl) (SX_cons (SX_set (i := 15) rfl (SE_bin b_add (SE_name (i := 10) rfl) (SE_name (i := 6) rfl)))
  SX_nil)
  (SX_cons (SX_if (ST_val (SE_name (i := 5) rfl)) (SX_cons (SX_set (i := 15) rfl (SE_bin b_sub (SE_name (i := 10) rfl) (SE_name (i := 6) rfl)))
  SX_nil)
  (SX_cons (SX_set (i := 15) rfl (SE_bin b_sub (SE_name (i := 6) rfl) (SE_name (i := 10) rfl)))
  SX_nil))
  (SX_cons (SX_if (ST_cmp c_ge (SE_name (i := 15) rfl) SE_int rfl) (SX_cons (SX_set (i := 5) rfl SE_int)
  SX_nil)
  (SX_cons (SX_set (i := 15) rfl (SE_neg (SE_name (i := 15) rfl)))
  (SX_cons (SX_set (i := 5) rfl SE_int)
  SX_nil)))
  SX_nil)))
  (SX_cons (SX_set (i := 16) rfl (SE_bl (SE_name (i := 15) rfl) rfl rfl))
  (SX_cons (SX_ret (SE_callR (n := 4) l_normalize (g_normalize hK) hK rfl hrk (SEs_cons (SE_name (i := 5) rfl) (SEs_cons (SE_name (i := 15) rfl) (SEs_cons (SE_name (i := 11) rfl) (SEs_cons (SE_name (i := 16) rfl) (SEs_cons (SE_or (SE_name (i := 2) rfl) (SE_one (SE_name (i := 16) rfl))) (SEs_cons (SE_name (i := 3) rfl) SEs_nil))))))))
  SX_nil)))))
  SX_nil)
  (SX_cons (SX_if (ST_val (SE_name (i := 4) rfl)) (SX_cons (SX_set (i := 1) rfl (SE_callR (n := 4) l_mpf_neg (g_mpf_neg hK) hK rfl hrk (SEs_cons (SE_name (i := 1) rfl) SEs_nil)))
  SX_nil)
  SX_nil)
  (SX_cons (SX_if (ST_not (ST_val (SE_name (i := 6) rfl))) (SX_cons (SX_if (ST_val (SE_name (i := 7) rfl)) (SX_cons (SX_if (ST_bool (STs_or_cons (ST_cmp c_eq (SE_name (i := 0) rfl) (SE_name (i := 1) rfl) rfl) (STs_or_cons (ST_val (SE_name (i := 10) rfl)) (STs_or_cons (ST_not (ST_val (SE_name (i := 11) rfl))) STs_or_nil)))) (SX_cons (SX_ret (SE_name (i := 0) rfl))
  SX_nil)
  SX_nil)
  (SX_cons (SX_ret (SE_glob l_fnan (g_fnan hK) (r_fnan hK)))
  SX_nil))
  SX_nil)
  (SX_cons (SX_if (ST_val (SE_name (i := 10) rfl)) (SX_cons (SX_ret (SE_callR (n := 4) l_normalize (g_normalize hK) hK rfl hrk (SEs_cons (SE_name (i := 9) rfl) (SEs_cons (SE_name (i := 10) rfl) (SEs_cons (SE_name (i := 11) rfl) (SEs_cons (SE_name (i := 12) rfl) (SEs_cons (SE_or (SE_name (i := 2) rfl) (SE_one (SE_name (i := 12) rfl))) (SEs_cons (SE_name (i := 3) rfl) SEs_nil))))))))
  SX_nil)
  SX_nil)
  (SX_cons (SX_ret (SE_name (i := 1) rfl))
  SX_nil)))
  SX_nil)
  (SX_cons (SX_if (ST_val (SE_name (i := 11) rfl)) (SX_cons (SX_ret (SE_name (i := 1) rfl))
  SX_nil)
  SX_nil)
  (SX_cons (SX_if (ST_val (SE_name (i := 6) rfl)) (SX_cons (SX_ret (SE_callR (n := 4) l_normalize (g_normalize hK) hK rfl hrk (SEs_cons (SE_name (i := 5) rfl) (SEs_cons (SE_name (i := 6) rfl) (SEs_cons (SE_name (i := 7) rfl) (SEs_cons (SE_name (i := 8) rfl) (SEs_cons (SE_or (SE_name (i := 2) rfl) (SE_one (SE_name (i := 8) rfl))) (SEs_cons (SE_name (i := 3) rfl) SEs_nil))))))))
  SX_nil)
  SX_nil)
  (SX_cons (SX_ret (SE_name (i := 0) rfl))
  SX_nil)))))))))

def q_mpf_sub (cx : Cx) : Tx := tSeq (tRet (tCall cx 5 230 (tCons (tName 0) (tCons (tName 1) (tCons (tName 2) (tCons (tName 3) (tCons (tInt 1) tNil)))))))
  tSkip
abbrev ns_mpf_sub : List Str := [Str.ofString "s", Str.ofString "t", Str.ofString "prec", Str.ofString "rnd"]
theorem w_mpf_sub4 (hK : KK cx) {args : List PyData} {out : Except Exn PyData} (hl : args.length = 4) (hvc : q_mpf_sub cx (valSlots (args ++ []) 0) [] (callPost out)) : CallOK cx 238 5 args out := by
  refine call_ok (n := 0) (dfl := []) (tx := q_mpf_sub cx) [Str.ofString "s", Str.ofString "t", Str.ofString "prec", Str.ofString "rnd"] ns_mpf_sub [] hK rfl (by kernel_rfl) (fun us s hu hk => ?_) (fun _ _ _ _ => Rds.nil) (by rw [List.length_append, hl]; rfl) (fun i x h => ?_) (by decide +kernel) (by decide +kernel) rfl rfl rfl (by decide) (fun fc hcs hrk => ?_) hvc
  · rw [hl] at hu
    obtain ⟨u0, u1, u2, u3, rfl⟩ := len_4 hu
    exact binds_K (K := hd.heap_39 cx.w.params) (hK ▸ hk) rfl rfl rfl rfl rfl
  · exact nth_sub (by decide +kernel) h
  · have l_mpf_add : fc.cs.names.lookup (Str.ofString "mpf_add") = some .globalImplicit := by rw [hcs]; rfl
    exact (SX_cons (SX_ret (SE_callR (n := 5) l_mpf_add (g_mpf_add hK) hK rfl hrk (SEs_cons (SE_name (i := 0) rfl) (SEs_cons (SE_name (i := 1) rfl) (SEs_cons (SE_name (i := 2) rfl) (SEs_cons (SE_name (i := 3) rfl) (SEs_cons SE_int SEs_nil)))))))
  SX_nil)

def q_mpf_sum_6 (cx : Cx) : Tx := tSeq (tRet (tCall cx 5 88 (tCons (tName 4) (tCons (tName 5) (tCons (tName 1) (tCons (tName 2) tNil))))))
  tSkip
def q_mpf_sum_5 (cx : Cx) : Tx := tSeq (tIf (tTruth (tName 7)) (tSeq (tRet (tName 7))
  tSkip)
  tSkip)
  (q_mpf_sum_6 cx)
theorem s_mpf_sum_5 {ρ σ P} (h : ∀ R : Tx, R = q_mpf_sum_6 cx → tSeq (tIf (tTruth (tName 7)) (tSeq (tRet (tName 7))
  tSkip)
  tSkip) R ρ σ P) : q_mpf_sum_5 cx ρ σ P := h _ rfl
def q_mpf_sum_4 (cx : Cx) : Tx := tSeq (tFor 8 (tName 0) (tSeq (tUnpack [9, 10, 11, 12] (tName 8))
  (tSeq (tIf (tTruth (tName 10)) (tSeq (tIf (tAndT (tTruth (tName 9)) (tAndT (tNotT (tTruth (tName 3))) tTrue)) (tSeq (tSet 10 (tNeg (tName 10)))
  tSkip)
  tSkip)
  (tSeq (tSet 13 (tBin kSub (tName 11) (tName 5)))
  (tSeq (tIf (tTest (tBin kGe (tName 11) (tName 5))) (tSeq (tIf (tAndT (tTest (tBin kGt (tName 13) (tName 6))) (tAndT (tOrT (tNotT (tTruth (tName 4))) (tOrT (tTest (tBin kGt (tBin kSub (tName 13) (tBl (tName 4))) (tName 6))) tFalse)) tTrue)) (tSeq (tSet 4 (tName 10))
  (tSeq (tSet 5 (tName 11))
  tSkip))
  (tSeq (tAug 4 kAdd (tBin kShl (tName 10) (tName 13)))
  tSkip))
  tSkip)
  (tSeq (tSet 13 (tNeg (tName 13)))
  (tSeq (tIf (tTest (tBin kGt (tBin kSub (tName 13) (tName 12)) (tName 6))) (tSeq (tIf (tNotT (tTruth (tName 4))) (tSeq (tUnpackR [4, 5] (tTup (tCons (tName 10) (tCons (tName 11) tNil))))
  tSkip)
  tSkip)
  tSkip)
  (tSeq (tSet 4 (tBin kAdd (tBin kShl (tName 4) (tName 13)) (tName 10)))
  (tSeq (tSet 5 (tName 11))
  tSkip)))
  tSkip)))
  tSkip)))
  (tSeq (tIf (tTruth (tName 11)) (tSeq (tIf (tTruth (tName 3)) (tSeq (tSet 8 (tCall cx 5 215 (tCons (tName 8) tNil)))
  tSkip)
  tSkip)
  (tSeq (tSet 7 (tCall cx 5 230 (tCons (tOr (tName 7) (tGlob p_fzero)) (tCons (tName 8) (tCons (tInt 1) tNil)))))
  tSkip))
  tSkip)
  tSkip))
  tSkip)))
  (q_mpf_sum_5 cx)
theorem s_mpf_sum_4 {ρ σ P} (h : ∀ R : Tx, R = q_mpf_sum_5 cx → tSeq (tFor 8 (tName 0) (tSeq (tUnpack [9, 10, 11, 12] (tName 8))
  (tSeq (tIf (tTruth (tName 10)) (tSeq (tIf (tAndT (tTruth (tName 9)) (tAndT (tNotT (tTruth (tName 3))) tTrue)) (tSeq (tSet 10 (tNeg (tName 10)))
  tSkip)
  tSkip)
  (tSeq (tSet 13 (tBin kSub (tName 11) (tName 5)))
  (tSeq (tIf (tTest (tBin kGe (tName 11) (tName 5))) (tSeq (tIf (tAndT (tTest (tBin kGt (tName 13) (tName 6))) (tAndT (tOrT (tNotT (tTruth (tName 4))) (tOrT (tTest (tBin kGt (tBin kSub (tName 13) (tBl (tName 4))) (tName 6))) tFalse)) tTrue)) (tSeq (tSet 4 (tName 10))
  (tSeq (tSet 5 (tName 11))
  tSkip))
  (tSeq (tAug 4 kAdd (tBin kShl (tName 10) (tName 13)))
  tSkip))
  tSkip)
  (tSeq (tSet 13 (tNeg (tName 13)))
  (tSeq (tIf (tTest (tBin kGt (tBin kSub (tName 13) (tName 12)) (tName 6))) (tSeq (tIf (tNotT (tTruth (tName 4))) (tSeq (tUnpackR [4, 5] (tTup (tCons (tName 10) (tCons (tName 11) tNil))))
  tSkip)
  tSkip)
  tSkip)
  (tSeq (tSet 4 (tBin kAdd (tBin kShl (tName 4) (tName 13)) (tName 10)))
  (tSeq (tSet 5 (tName 11))
  tSkip)))
  tSkip)))
  tSkip)))
  (tSeq (tIf (tTruth (tName 11)) (tSeq (tIf (tTruth (tName 3)) (tSeq (tSet 8 (tCall cx 5 215 (tCons (tName 8) tNil)))
  tSkip)
  tSkip)
  (tSeq (tSet 7 (tCall cx 5 230 (tCons (tOr (tName 7) (tGlob p_fzero)) (tCons (tName 8) (tCons (tInt 1) tNil)))))
  tSkip))
  tSkip)
  tSkip))
  tSkip))) R ρ σ P) : q_mpf_sum_4 cx ρ σ P := h _ rfl
def q_mpf_sum_3 (cx : Cx) : Tx := tSeq (tSet 7 tNone)
  (q_mpf_sum_4 cx)
theorem s_mpf_sum_3 {ρ σ P} (h : ∀ R : Tx, R = q_mpf_sum_4 cx → tSeq (tSet 7 tNone) R ρ σ P) : q_mpf_sum_3 cx ρ σ P := h _ rfl
def q_mpf_sum_2 (cx : Cx) : Tx := tSeq (tSet 6 (tOr (tBin kMul (tName 1) (tInt 2)) (tInt 1000000)))
  (q_mpf_sum_3 cx)
theorem s_mpf_sum_2 {ρ σ P} (h : ∀ R : Tx, R = q_mpf_sum_3 cx → tSeq (tSet 6 (tOr (tBin kMul (tName 1) (tInt 2)) (tInt 1000000))) R ρ σ P) : q_mpf_sum_2 cx ρ σ P := h _ rfl
def q_mpf_sum_1 (cx : Cx) : Tx := tSeq (tSet 5 (tInt 0))
  (q_mpf_sum_2 cx)
theorem s_mpf_sum_1 {ρ σ P} (h : ∀ R : Tx, R = q_mpf_sum_2 cx → tSeq (tSet 5 (tInt 0)) R ρ σ P) : q_mpf_sum_1 cx ρ σ P := h _ rfl
def q_mpf_sum (cx : Cx) : Tx := tSeq (tSet 4 (tB kInt (tCons (tInt 0) tNil)))
  (q_mpf_sum_1 cx)
theorem s_mpf_sum {ρ σ P} (h : ∀ R : Tx, R = q_mpf_sum_1 cx → tSeq (tSet 4 (tB kInt (tCons (tInt 0) tNil))) R ρ σ P) : q_mpf_sum cx ρ σ P := h _ rfl
abbrev ns_mpf_sum : List Str := [Str.ofString "xs", Str.ofString "prec", Str.ofString "rnd", Str.ofString "absolute", Str.ofString "man", Str.ofString "exp", Str.ofString "max_extra_prec", Str.ofString "special", Str.ofString "x", Str.ofString "xsign", Str.ofString "xman", Str.ofString "xexp", Str.ofString "xbc", Str.ofString "delta"]
theorem w_mpf_sum1 (hK : KK cx) {args : List PyData} {out : Except Exn PyData} (hl : args.length = 1) (hvc : q_mpf_sum cx (valSlots (args ++ [(.int 0 : PyData), (.str (Str.ofString "d") : PyData), (.bool false : PyData)]) 10) [] (callPost out)) : CallOK cx 246 5 args out := by
  refine call_ok (n := 10) (dfl := [(.int 0 : PyData), (.str (Str.ofString "d") : PyData), (.bool false : PyData)]) (tx := q_mpf_sum cx) [Str.ofString "xs", Str.ofString "prec", Str.ofString "rnd", Str.ofString "absolute"] ns_mpf_sum [.int 0 573, .str (Str.ofString "d") 252, .bool false] hK rfl (by kernel_rfl) (fun us s hu hk => ?_) (fun _ _ _ _ => (.cons (.int _ _) (.cons (.str _ _) (.cons (.bool _) (.nil))))) (by rw [List.length_append, hl]; rfl) (fun i x h => ?_) (by decide +kernel) (by decide +kernel) rfl rfl rfl (by decide) (fun fc hcs hrk => ?_) hvc
  · rw [hl] at hu
    obtain ⟨u0, rfl⟩ := len_1 hu
    exact binds_K (K := hd.heap_39 cx.w.params) (hK ▸ hk) rfl rfl rfl rfl rfl
  · exact nth_sub (by decide +kernel) h
  · have l_int : fc.cs.names.lookup (Str.ofString "int") = some .globalImplicit := by rw [hcs]; rfl
    have l_fzero : fc.cs.names.lookup (Str.ofString "fzero") = some .globalImplicit := by rw [hcs]; rfl
    have l_mpf_add : fc.cs.names.lookup (Str.ofString "mpf_add") = some .globalImplicit := by rw [hcs]; rfl
    have l_mpf_abs : fc.cs.names.lookup (Str.ofString "mpf_abs") = some .globalImplicit := by rw [hcs]; rfl
    have l_from_man_exp : fc.cs.names.lookup (Str.ofString "from_man_exp") = some .globalImplicit := by rw [hcs]; rfl
    exact (SX_cons (SX_set (i := 4) rfl (SE_tcall l_int (n_int hK) Boot.«int» bc_int (SEs_cons SE_int SEs_nil)))
  (SX_cons (SX_set (i := 5) rfl SE_int)
  (SX_cons (SX_set (i := 6) rfl (SE_or (SE_bin b_mul (SE_name (i := 1) rfl) SE_int) (SE_one SE_int)))
  (SX_cons (SX_set (i := 7) rfl SE_none)
  (SX_cons (SX_for (j := 8) rfl (SE_name (i := 0) rfl) (SX_cons (SX_unpack (xs := [Str.ofString "xsign", Str.ofString "xman", Str.ofString "xexp", Str.ofString "xbc"]) (SE_name (i := 8) rfl) rfl (NameElts.cons (NameElts.cons (NameElts.cons (NameElts.cons NameElts.nil)))) rfl rfl)
  (SX_cons (SX_if (ST_val (SE_name (i := 10) rfl)) (SX_cons (SX_if (ST_bool (STs_and_cons (ST_val (SE_name (i := 9) rfl)) (STs_and_cons (ST_not (ST_val (SE_name (i := 3) rfl))) STs_and_nil))) (SX_cons (SX_set (i := 10) rfl (SE_neg (SE_name (i := 10) rfl)))
  SX_nil)
  SX_nil)
  (SX_cons (SX_set (i := 13) rfl (SE_bin b_sub (SE_name (i := 11) rfl) (SE_name (i := 5) rfl)))
  (SX_cons (SX_if (ST_cmp c_ge (SE_name (i := 11) rfl) (SE_name (i := 5) rfl) rfl) (SX_cons (SX_if (ST_bool (STs_and_cons (ST_cmp c_gt (SE_name (i := 13) rfl) (SE_name (i := 6) rfl) rfl) (STs_and_cons (ST_bool (STs_or_cons (ST_not (ST_val (SE_name (i := 4) rfl))) (STs_or_cons (ST_cmp c_gt (SE_bin b_sub (SE_name (i := 13) rfl) (SE_bl (SE_name (i := 4) rfl) rfl rfl)) (SE_name (i := 6) rfl) rfl) STs_or_nil))) STs_and_nil))) (SX_cons (SX_set (i := 4) rfl (SE_name (i := 10) rfl))
  (SX_cons (SX_set (i := 5) rfl (SE_name (i := 11) rfl))
  SX_nil))
  (SX_cons (SX_aug (i := 4) rfl i_add (SE_bin b_shl (SE_name (i := 10) rfl) (SE_name (i := 13) rfl)))
  SX_nil))
  SX_nil)
  (SX_cons (SX_set (i := 13) rfl (SE_neg (SE_name (i := 13) rfl)))
  (SX_cons (SX_if (ST_cmp c_gt (SE_bin b_sub (SE_name (i := 13) rfl) (SE_name (i := 12) rfl)) (SE_name (i := 6) rfl) rfl) (SX_cons (SX_if (ST_not (ST_val (SE_name (i := 4) rfl))) (SX_cons (SX_swap (xs := [Str.ofString "man", Str.ofString "exp"]) hcs (SE_tup (SEs_cons (SE_name (i := 10) rfl) (SEs_cons (SE_name (i := 11) rfl) SEs_nil))) rfl rfl rfl)
  SX_nil)
  SX_nil)
  SX_nil)
  (SX_cons (SX_set (i := 4) rfl (SE_bin b_add (SE_bin b_shl (SE_name (i := 4) rfl) (SE_name (i := 13) rfl)) (SE_name (i := 10) rfl)))
  (SX_cons (SX_set (i := 5) rfl (SE_name (i := 11) rfl))
  SX_nil)))
  SX_nil)))
  SX_nil)))
  (SX_cons (SX_if (ST_val (SE_name (i := 11) rfl)) (SX_cons (SX_if (ST_val (SE_name (i := 3) rfl)) (SX_cons (SX_set (i := 8) rfl (SE_callR (n := 5) l_mpf_abs (g_mpf_abs hK) hK rfl hrk (SEs_cons (SE_name (i := 8) rfl) SEs_nil)))
  SX_nil)
  SX_nil)
  (SX_cons (SX_set (i := 7) rfl (SE_callR (n := 5) l_mpf_add (g_mpf_add hK) hK rfl hrk (SEs_cons (SE_or (SE_name (i := 7) rfl) (SE_one (SE_glob l_fzero (g_fzero hK) (r_fzero hK)))) (SEs_cons (SE_name (i := 8) rfl) (SEs_cons SE_int SEs_nil)))))
  SX_nil))
  SX_nil)
  SX_nil))
  SX_nil)))
  (SX_cons (SX_if (ST_val (SE_name (i := 7) rfl)) (SX_cons (SX_ret (SE_name (i := 7) rfl))
  SX_nil)
  SX_nil)
  (SX_cons (SX_ret (SE_callR (n := 5) l_from_man_exp (g_from_man_exp hK) hK rfl hrk (SEs_cons (SE_name (i := 4) rfl) (SEs_cons (SE_name (i := 5) rfl) (SEs_cons (SE_name (i := 1) rfl) (SEs_cons (SE_name (i := 2) rfl) SEs_nil))))))
  SX_nil)))))))

def q_mpf_mul_11 (cx : Cx) : Tx := tSeq (fun _ _ _ => False)
  tSkip
def q_mpf_mul_10 (cx : Cx) : Tx := tSeq (tIf (tTest (tBin kEq (tName 1) (tGlob p_fzero))) (tSeq (tRet (tGlob p_fnan))
  tSkip)
  tSkip)
  (q_mpf_mul_11 cx)
theorem s_mpf_mul_10 {ρ σ P} (h : ∀ R : Tx, R = q_mpf_mul_11 cx → tSeq (tIf (tTest (tBin kEq (tName 1) (tGlob p_fzero))) (tSeq (tRet (tGlob p_fnan))
  tSkip)
  tSkip) R ρ σ P) : q_mpf_mul_10 cx ρ σ P := h _ rfl
def q_mpf_mul_9 (cx : Cx) : Tx := tSeq (tIf (tAndT (tNotT (tTruth (tName 9))) (tAndT (tTruth (tName 10)) tTrue)) (tSeq (tUnpackR [0, 1] (tTup (tCons (tName 1) (tCons (tName 0) tNil))))
  tSkip)
  tSkip)
  (q_mpf_mul_10 cx)
theorem s_mpf_mul_9 {ρ σ P} (h : ∀ R : Tx, R = q_mpf_mul_10 cx → tSeq (tIf (tAndT (tNotT (tTruth (tName 9))) (tAndT (tTruth (tName 10)) tTrue)) (tSeq (tUnpackR [0, 1] (tTup (tCons (tName 1) (tCons (tName 0) tNil))))
  tSkip)
  tSkip) R ρ σ P) : q_mpf_mul_9 cx ρ σ P := h _ rfl
def q_mpf_mul_8 (cx : Cx) : Tx := tSeq (tIf (tTest (tBin kInTup (tGlob p_fnan) (tTup (tCons (tName 0) (tCons (tName 1) tNil))))) (tSeq (tRet (tGlob p_fnan))
  tSkip)
  tSkip)
  (q_mpf_mul_9 cx)
theorem s_mpf_mul_8 {ρ σ P} (h : ∀ R : Tx, R = q_mpf_mul_9 cx → tSeq (tIf (tTest (tBin kInTup (tGlob p_fnan) (tTup (tCons (tName 0) (tCons (tName 1) tNil))))) (tSeq (tRet (tGlob p_fnan))
  tSkip)
  tSkip) R ρ σ P) : q_mpf_mul_8 cx ρ σ P := h _ rfl
def q_mpf_mul_7 (cx : Cx) : Tx := tSeq (tIf (tAndT (tNotT (tTruth (tName 15))) (tAndT (tNotT (tTruth (tName 16))) tTrue)) (tSeq (tRet (tGlob p_fzero))
  tSkip)
  tSkip)
  (q_mpf_mul_8 cx)
theorem s_mpf_mul_7 {ρ σ P} (h : ∀ R : Tx, R = q_mpf_mul_8 cx → tSeq (tIf (tAndT (tNotT (tTruth (tName 15))) (tAndT (tNotT (tTruth (tName 16))) tTrue)) (tSeq (tRet (tGlob p_fzero))
  tSkip)
  tSkip) R ρ σ P) : q_mpf_mul_7 cx ρ σ P := h _ rfl
def q_mpf_mul_6 (cx : Cx) : Tx := tSeq (tSet 16 (tAnd (tNot (tName 9)) (tName 10)))
  (q_mpf_mul_7 cx)
theorem s_mpf_mul_6 {ρ σ P} (h : ∀ R : Tx, R = q_mpf_mul_7 cx → tSeq (tSet 16 (tAnd (tNot (tName 9)) (tName 10))) R ρ σ P) : q_mpf_mul_6 cx ρ σ P := h _ rfl
def q_mpf_mul_5 (cx : Cx) : Tx := tSeq (tSet 15 (tAnd (tNot (tName 5)) (tName 6)))
  (q_mpf_mul_6 cx)
theorem s_mpf_mul_5 {ρ σ P} (h : ∀ R : Tx, R = q_mpf_mul_6 cx → tSeq (tSet 15 (tAnd (tNot (tName 5)) (tName 6))) R ρ σ P) : q_mpf_mul_5 cx ρ σ P := h _ rfl
def q_mpf_mul_4 (cx : Cx) : Tx := tSeq (tIf (tTruth (tName 13)) (tSeq (tSet 14 (tBl (tName 13)))
  (tSeq (tIf (tTruth (tName 2)) (tSeq (tRet (tCall cx 3 80 (tCons (tName 12) (tCons (tName 13) (tCons (tBin kAdd (tName 6) (tName 10)) (tCons (tName 14) (tCons (tName 2) (tCons (tName 3) tNil))))))))
  tSkip)
  (tSeq (tRet (tTup (tCons (tName 12) (tCons (tName 13) (tCons (tBin kAdd (tName 6) (tName 10)) (tCons (tName 14) tNil))))))
  tSkip))
  tSkip))
  tSkip)
  (q_mpf_mul_5 cx)
theorem s_mpf_mul_4 {ρ σ P} (h : ∀ R : Tx, R = q_mpf_mul_5 cx → tSeq (tIf (tTruth (tName 13)) (tSeq (tSet 14 (tBl (tName 13)))
  (tSeq (tIf (tTruth (tName 2)) (tSeq (tRet (tCall cx 3 80 (tCons (tName 12) (tCons (tName 13) (tCons (tBin kAdd (tName 6) (tName 10)) (tCons (tName 14) (tCons (tName 2) (tCons (tName 3) tNil))))))))
  tSkip)
  (tSeq (tRet (tTup (tCons (tName 12) (tCons (tName 13) (tCons (tBin kAdd (tName 6) (tName 10)) (tCons (tName 14) tNil))))))
  tSkip))
  tSkip))
  tSkip) R ρ σ P) : q_mpf_mul_4 cx ρ σ P := h _ rfl
def q_mpf_mul_3 (cx : Cx) : Tx := tSeq (tSet 13 (tBin kMul (tName 5) (tName 9)))
  (q_mpf_mul_4 cx)
theorem s_mpf_mul_3 {ρ σ P} (h : ∀ R : Tx, R = q_mpf_mul_4 cx → tSeq (tSet 13 (tBin kMul (tName 5) (tName 9))) R ρ σ P) : q_mpf_mul_3 cx ρ σ P := h _ rfl
def q_mpf_mul_2 (cx : Cx) : Tx := tSeq (tSet 12 (tBin kXor (tName 4) (tName 8)))
  (q_mpf_mul_3 cx)
theorem s_mpf_mul_2 {ρ σ P} (h : ∀ R : Tx, R = q_mpf_mul_3 cx → tSeq (tSet 12 (tBin kXor (tName 4) (tName 8))) R ρ σ P) : q_mpf_mul_2 cx ρ σ P := h _ rfl
def q_mpf_mul_1 (cx : Cx) : Tx := tSeq (tUnpack [8, 9, 10, 11] (tName 1))
  (q_mpf_mul_2 cx)
theorem s_mpf_mul_1 {ρ σ P} (h : ∀ R : Tx, R = q_mpf_mul_2 cx → tSeq (tUnpack [8, 9, 10, 11] (tName 1)) R ρ σ P) : q_mpf_mul_1 cx ρ σ P := h _ rfl
def q_mpf_mul (cx : Cx) : Tx := tSeq (tUnpack [4, 5, 6, 7] (tName 0))
  (q_mpf_mul_1 cx)
theorem s_mpf_mul {ρ σ P} (h : ∀ R : Tx, R = q_mpf_mul_1 cx → tSeq (tUnpack [4, 5, 6, 7] (tName 0)) R ρ σ P) : q_mpf_mul cx ρ σ P := h _ rfl
abbrev ns_mpf_mul : List Str := [Str.ofString "s", Str.ofString "t", Str.ofString "prec", Str.ofString "rnd", Str.ofString "ssign", Str.ofString "sman", Str.ofString "sexp", Str.ofString "sbc", Str.ofString "tsign", Str.ofString "tman", Str.ofString "texp", Str.ofString "tbc", Str.ofString "sign", Str.ofString "man", Str.ofString "bc", Str.ofString "s_special", Str.ofString "t_special"]
theorem w_mpf_mul2 (hK : KK cx) {args : List PyData} {out : Except Exn PyData} (hl : args.length = 2) (hvc : q_mpf_mul cx (valSlots (args ++ [(.int 0 : PyData), (.str (Str.ofString "d") : PyData)]) 13) [] (callPost out)) : CallOK cx 254 3 args out := by
  refine call_ok (n := 13) (dfl := [(.int 0 : PyData), (.str (Str.ofString "d") : PyData)]) (tx := q_mpf_mul cx) [Str.ofString "s", Str.ofString "t", Str.ofString "prec", Str.ofString "rnd"] ns_mpf_mul [.int 0 594, .str (Str.ofString "d") 252] hK rfl (by kernel_rfl) (fun us s hu hk => ?_) (fun _ _ _ _ => (.cons (.int _ _) (.cons (.str _ _) (.nil)))) (by rw [List.length_append, hl]; rfl) (fun i x h => ?_) (by decide +kernel) (by decide +kernel) rfl rfl rfl (by decide) (fun fc hcs hrk => ?_) hvc
  · rw [hl] at hu
    obtain ⟨u0, u1, rfl⟩ := len_2 hu
    exact binds_K (K := hd.heap_39 cx.w.params) (hK ▸ hk) rfl rfl rfl rfl rfl
  · exact nth_sub (by decide +kernel) h
  · have l_normalize : fc.cs.names.lookup (Str.ofString "normalize") = some .globalImplicit := by rw [hcs]; rfl
    have l_fzero : fc.cs.names.lookup (Str.ofString "fzero") = some .globalImplicit := by rw [hcs]; rfl
    have l_fnan : fc.cs.names.lookup (Str.ofString "fnan") = some .globalImplicit := by rw [hcs]; rfl
    have l_mpf_sign : fc.cs.names.lookup (Str.ofString "mpf_sign") = some .globalImplicit := by rw [hcs]; rfl
    exact (SX_cons (SX_unpack (xs := [Str.ofString "ssign", Str.ofString "sman", Str.ofString "sexp", Str.ofString "sbc"]) (SE_name (i := 0) rfl) rfl (NameElts.cons (NameElts.cons (NameElts.cons (NameElts.cons NameElts.nil)))) rfl rfl)
  (SX_cons (SX_unpack (xs := [Str.ofString "tsign", Str.ofString "tman", Str.ofString "texp", Str.ofString "tbc"]) (SE_name (i := 1) rfl) rfl (NameElts.cons (NameElts.cons (NameElts.cons (NameElts.cons NameElts.nil)))) rfl rfl)
  (SX_cons (SX_set (i := 12) rfl (SE_bin b_xor (SE_name (i := 4) rfl) (SE_name (i := 8) rfl)))
  (SX_cons (SX_set (i := 13) rfl (SE_bin b_mul (SE_name (i := 5) rfl) (SE_name (i := 9) rfl)))
  (SX_cons (SX_if (ST_val (SE_name (i := 13) rfl)) (SX_cons (SX_set (i := 14) rfl (SE_bl (SE_name (i := 13) rfl) rfl rfl))
  (SX_cons (SX_if (ST_val (SE_name (i := 2) rfl)) (SX_cons (SX_ret (SE_callR (n := 3) l_normalize (g_normalize hK) hK rfl hrk (SEs_cons (SE_name (i := 12) rfl) (SEs_cons (SE_name (i := 13) rfl) (SEs_cons (SE_bin b_add (SE_name (i := 6) rfl) (SE_name (i := 10) rfl)) (SEs_cons (SE_name (i := 14) rfl) (SEs_cons (SE_name (i := 2) rfl) (SEs_cons (SE_name (i := 3) rfl) SEs_nil))))))))
  SX_nil)
  (SX_cons (SX_ret (SE_tup (SEs_cons (SE_name (i := 12) rfl) (SEs_cons (SE_name (i := 13) rfl) (SEs_cons (SE_bin b_add (SE_name (i := 6) rfl) (SE_name (i := 10) rfl)) (SEs_cons (SE_name (i := 14) rfl) SEs_nil))))))
  SX_nil))
  SX_nil))
  SX_nil)
  (SX_cons (SX_set (i := 15) rfl (SE_and (SE_not (SE_name (i := 5) rfl)) (SE_one (SE_name (i := 6) rfl))))
  (SX_cons (SX_set (i := 16) rfl (SE_and (SE_not (SE_name (i := 9) rfl)) (SE_one (SE_name (i := 10) rfl))))
  (SX_cons (SX_if (ST_bool (STs_and_cons (ST_not (ST_val (SE_name (i := 15) rfl))) (STs_and_cons (ST_not (ST_val (SE_name (i := 16) rfl))) STs_and_nil))) (SX_cons (SX_ret (SE_glob l_fzero (g_fzero hK) (r_fzero hK)))
  SX_nil)
  SX_nil)
  (SX_cons (SX_if (ST_cmp c_in_tup (SE_glob l_fnan (g_fnan hK) (r_fnan hK)) (SE_tup (SEs_cons (SE_name (i := 0) rfl) (SEs_cons (SE_name (i := 1) rfl) SEs_nil))) rfl) (SX_cons (SX_ret (SE_glob l_fnan (g_fnan hK) (r_fnan hK)))
  SX_nil)
  SX_nil)
  (SX_cons (SX_if (ST_bool (STs_and_cons (ST_not (ST_val (SE_name (i := 9) rfl))) (STs_and_cons (ST_val (SE_name (i := 10) rfl)) STs_and_nil))) (SX_cons (SX_swap (xs := [Str.ofString "s", Str.ofString "t"]) hcs (SE_tup (SEs_cons (SE_name (i := 1) rfl) (SEs_cons (SE_name (i := 0) rfl) SEs_nil))) rfl rfl rfl)
  SX_nil)
  SX_nil)
  (SX_cons (SX_if (ST_cmp c_eq (SE_name (i := 1) rfl) (SE_glob l_fzero (g_fzero hK) (r_fzero hK)) rfl) (SX_cons (SX_ret (SE_glob l_fnan (g_fnan hK) (r_fnan hK)))
  SX_nil)
  SX_nil)
  (SX_cons SX1_false
  SX_nil))))))))))))
theorem w_mpf_mul4 (hK : KK cx) {args : List PyData} {out : Except Exn PyData} (hl : args.length = 4) (hvc : q_mpf_mul cx (valSlots (args ++ []) 13) [] (callPost out)) : CallOK cx 254 3 args out := by
  refine call_ok (n := 13) (dfl := []) (tx := q_mpf_mul cx) [Str.ofString "s", Str.ofString "t", Str.ofString "prec", Str.ofString "rnd"] ns_mpf_mul [] hK rfl (by kernel_rfl) (fun us s hu hk => ?_) (fun _ _ _ _ => Rds.nil) (by rw [List.length_append, hl]; rfl) (fun i x h => ?_) (by decide +kernel) (by decide +kernel) rfl rfl rfl (by decide) (fun fc hcs hrk => ?_) hvc
  · rw [hl] at hu
    obtain ⟨u0, u1, u2, u3, rfl⟩ := len_4 hu
    exact binds_K (K := hd.heap_39 cx.w.params) (hK ▸ hk) rfl rfl rfl rfl rfl
  · exact nth_sub (by decide +kernel) h
  · have l_normalize : fc.cs.names.lookup (Str.ofString "normalize") = some .globalImplicit := by rw [hcs]; rfl
    have l_fzero : fc.cs.names.lookup (Str.ofString "fzero") = some .globalImplicit := by rw [hcs]; rfl
    have l_fnan : fc.cs.names.lookup (Str.ofString "fnan") = some .globalImplicit := by rw [hcs]; rfl
    have l_mpf_sign : fc.cs.names.lookup (Str.ofString "mpf_sign") = some .globalImplicit := by rw [hcs]; rfl
    exact (SX_cons (SX_unpack (xs := [Str.ofString "ssign", Str.ofString "sman", Str.ofString "sexp", Str.ofString "sbc"]) (SE_name (i := 0) rfl) rfl (NameElts.cons (NameElts.cons (NameElts.cons (NameElts.cons NameElts.nil)))) rfl rfl)
  (SX_cons (SX_unpack (xs := [Str.ofString "tsign", Str.ofString "tman", Str.ofString "texp", Str.ofString "tbc"]) (SE_name (i := 1) rfl) rfl (NameElts.cons (NameElts.cons (NameElts.cons (NameElts.cons NameElts.nil)))) rfl rfl)
  (SX_cons (SX_set (i := 12) rfl (SE_bin b_xor (SE_name (i := 4) rfl) (SE_name (i := 8) rfl)))
  (SX_cons (SX_set (i := 13) rfl (SE_bin b_mul (SE_name (i := 5) rfl) (SE_name (i := 9) rfl)))
  (SX_cons (SX_if (ST_val (SE_name (i := 13) rfl)) (SX_cons (SX_set (i := 14) rfl (SE_bl (SE_name (i := 13) rfl) rfl rfl))
  (SX_cons (SX_if (ST_val (SE_name (i := 2) rfl)) (SX_cons (SX_ret (SE_callR (n := 3) l_normalize (g_normalize hK) hK rfl hrk (SEs_cons (SE_name (i := 12) rfl) (SEs_cons (SE_name (i := 13) rfl) (SEs_cons (SE_bin b_add (SE_name (i := 6) rfl) (SE_name (i := 10) rfl)) (SEs_cons (SE_name (i := 14) rfl) (SEs_cons (SE_name (i := 2) rfl) (SEs_cons (SE_name (i := 3) rfl) SEs_nil))))))))
  SX_nil)
  (SX_cons (SX_ret (SE_tup (SEs_cons (SE_name (i := 12) rfl) (SEs_cons (SE_name (i := 13) rfl) (SEs_cons (SE_bin b_add (SE_name (i := 6) rfl) (SE_name (i := 10) rfl)) (SEs_cons (SE_name (i := 14) rfl) SEs_nil))))))
  SX_nil))
  SX_nil))
  SX_nil)
  (SX_cons (SX_set (i := 15) rfl (SE_and (SE_not (SE_name (i := 5) rfl)) (SE_one (SE_name (i := 6) rfl))))
  (SX_cons (SX_set (i := 16) rfl (SE_and (SE_not (SE_name (i := 9) rfl)) (SE_one (SE_name (i := 10) rfl))))
  (SX_cons (SX_if (ST_bool (STs_and_cons (ST_not (ST_val (SE_name (i := 15) rfl))) (STs_and_cons (ST_not (ST_val (SE_name (i := 16) rfl))) STs_and_nil))) (SX_cons (SX_ret (SE_glob l_fzero (g_fzero hK) (r_fzero hK)))
  SX_nil)
  SX_nil)
  (SX_cons (SX_if (ST_cmp c_in_tup (SE_glob l_fnan (g_fnan hK) (r_fnan hK)) (SE_tup (SEs_cons (SE_name (i := 0) rfl) (SEs_cons (SE_name (i := 1) rfl) SEs_nil))) rfl) (SX_cons (SX_ret (SE_glob l_fnan (g_fnan hK) (r_fnan hK)))
  SX_nil)
  SX_nil)
  (SX_cons (SX_if (ST_bool (STs_and_cons (ST_not (ST_val (SE_name (i := 9) rfl))) (STs_and_cons (ST_val (SE_name (i := 10) rfl)) STs_and_nil))) (SX_cons (SX_swap (xs := [Str.ofString "s", Str.ofString "t"]) hcs (SE_tup (SEs_cons (SE_name (i := 1) rfl) (SEs_cons (SE_name (i := 0) rfl) SEs_nil))) rfl rfl rfl)
  SX_nil)
  SX_nil)
  (SX_cons (SX_if (ST_cmp c_eq (SE_name (i := 1) rfl) (SE_glob l_fzero (g_fzero hK) (r_fzero hK)) rfl) (SX_cons (SX_ret (SE_glob l_fnan (g_fnan hK) (r_fnan hK)))
  SX_nil)
  SX_nil)
  (SX_cons SX1_false
  SX_nil))))))))))))

def q_mpf_mul_int_7 (cx : Cx) : Tx := tSeq (tRet (tCall cx 5 80 (tCons (tName 4) (tCons (tName 5) (tCons (tName 6) (tCons (tName 7) (tCons (tName 2) (tCons (tName 3) tNil))))))))
  tSkip
def q_mpf_mul_int_6 (cx : Cx) : Tx := tSeq (tAug 7 kAdd (tBin kShr (tName 5) (tName 7)))
  (q_mpf_mul_int_7 cx)
theorem s_mpf_mul_int_6 {ρ σ P} (h : ∀ R : Tx, R = q_mpf_mul_int_7 cx → tSeq (tAug 7 kAdd (tBin kShr (tName 5) (tName 7))) R ρ σ P) : q_mpf_mul_int_6 cx ρ σ P := h _ rfl
def q_mpf_mul_int_5 (cx : Cx) : Tx := tSeq (tAug 7 kAdd (tBin kSub (tBl (tName 1)) (tInt 1)))
  (q_mpf_mul_int_6 cx)
theorem s_mpf_mul_int_5 {ρ σ P} (h : ∀ R : Tx, R = q_mpf_mul_int_6 cx → tSeq (tAug 7 kAdd (tBin kSub (tBl (tName 1)) (tInt 1))) R ρ σ P) : q_mpf_mul_int_5 cx ρ σ P := h _ rfl
def q_mpf_mul_int_4 (cx : Cx) : Tx := tSeq (tAug 5 kMul (tName 1))
  (q_mpf_mul_int_5 cx)
theorem s_mpf_mul_int_4 {ρ σ P} (h : ∀ R : Tx, R = q_mpf_mul_int_5 cx → tSeq (tAug 5 kMul (tName 1)) R ρ σ P) : q_mpf_mul_int_4 cx ρ σ P := h _ rfl
def q_mpf_mul_int_3 (cx : Cx) : Tx := tSeq (tIf (tTest (tBin kLt (tName 1) (tInt 0))) (tSeq (tAug 4 kXor (tInt 1))
  (tSeq (tSet 1 (tNeg (tName 1)))
  tSkip))
  tSkip)
  (q_mpf_mul_int_4 cx)
theorem s_mpf_mul_int_3 {ρ σ P} (h : ∀ R : Tx, R = q_mpf_mul_int_4 cx → tSeq (tIf (tTest (tBin kLt (tName 1) (tInt 0))) (tSeq (tAug 4 kXor (tInt 1))
  (tSeq (tSet 1 (tNeg (tName 1)))
  tSkip))
  tSkip) R ρ σ P) : q_mpf_mul_int_3 cx ρ σ P := h _ rfl
def q_mpf_mul_int_2 (cx : Cx) : Tx := tSeq (tIf (tNotT (tTruth (tName 1))) (tSeq (tRet (tGlob p_fzero))
  tSkip)
  tSkip)
  (q_mpf_mul_int_3 cx)
theorem s_mpf_mul_int_2 {ρ σ P} (h : ∀ R : Tx, R = q_mpf_mul_int_3 cx → tSeq (tIf (tNotT (tTruth (tName 1))) (tSeq (tRet (tGlob p_fzero))
  tSkip)
  tSkip) R ρ σ P) : q_mpf_mul_int_2 cx ρ σ P := h _ rfl
def q_mpf_mul_int_1 (cx : Cx) : Tx := tSeq (tIf (tNotT (tTruth (tName 5))) (tSeq (tRet (tCall cx 5 254 (tCons (tName 0) (tCons (tCall cx 5 96 (tCons (tName 1) tNil)) (tCons (tName 2) (tCons (tName 3) tNil))))))
  tSkip)
  tSkip)
  (q_mpf_mul_int_2 cx)
theorem s_mpf_mul_int_1 {ρ σ P} (h : ∀ R : Tx, R = q_mpf_mul_int_2 cx → tSeq (tIf (tNotT (tTruth (tName 5))) (tSeq (tRet (tCall cx 5 254 (tCons (tName 0) (tCons (tCall cx 5 96 (tCons (tName 1) tNil)) (tCons (tName 2) (tCons (tName 3) tNil))))))
  tSkip)
  tSkip) R ρ σ P) : q_mpf_mul_int_1 cx ρ σ P := h _ rfl
def q_mpf_mul_int (cx : Cx) : Tx := tSeq (tUnpack [4, 5, 6, 7] (tName 0))
  (q_mpf_mul_int_1 cx)
theorem s_mpf_mul_int {ρ σ P} (h : ∀ R : Tx, R = q_mpf_mul_int_1 cx → tSeq (tUnpack [4, 5, 6, 7] (tName 0)) R ρ σ P) : q_mpf_mul_int cx ρ σ P := h _ rfl
abbrev ns_mpf_mul_int : List Str := [Str.ofString "s", Str.ofString "n", Str.ofString "prec", Str.ofString "rnd", Str.ofString "sign", Str.ofString "man", Str.ofString "exp", Str.ofString "bc"]
theorem w_mpf_mul_int4 (hK : KK cx) {args : List PyData} {out : Except Exn PyData} (hl : args.length = 4) (hvc : q_mpf_mul_int cx (valSlots (args ++ []) 4) [] (callPost out)) : CallOK cx 262 5 args out := by
  refine call_ok (n := 4) (dfl := []) (tx := q_mpf_mul_int cx) [Str.ofString "s", Str.ofString "n", Str.ofString "prec", Str.ofString "rnd"] ns_mpf_mul_int [] hK rfl (by kernel_rfl) (fun us s hu hk => ?_) (fun _ _ _ _ => Rds.nil) (by rw [List.length_append, hl]; rfl) (fun i x h => ?_) (by decide +kernel) (by decide +kernel) rfl rfl rfl (by decide) (fun fc hcs hrk => ?_) hvc
  · rw [hl] at hu
    obtain ⟨u0, u1, u2, u3, rfl⟩ := len_4 hu
    exact binds_K (K := hd.heap_39 cx.w.params) (hK ▸ hk) rfl rfl rfl rfl rfl
  · exact nth_sub (by decide +kernel) h
  · have l_from_int : fc.cs.names.lookup (Str.ofString "from_int") = some .globalImplicit := by rw [hcs]; rfl
    have l_mpf_mul : fc.cs.names.lookup (Str.ofString "mpf_mul") = some .globalImplicit := by rw [hcs]; rfl
    have l_fzero : fc.cs.names.lookup (Str.ofString "fzero") = some .globalImplicit := by rw [hcs]; rfl
    have l_normalize : fc.cs.names.lookup (Str.ofString "normalize") = some .globalImplicit := by rw [hcs]; rfl
    exact (SX_cons (SX_unpack (xs := [Str.ofString "sign", Str.ofString "man", Str.ofString "exp", Str.ofString "bc"]) (SE_name (i := 0) rfl) rfl (NameElts.cons (NameElts.cons (NameElts.cons (NameElts.cons NameElts.nil)))) rfl rfl)
  (SX_cons (SX_if (ST_not (ST_val (SE_name (i := 5) rfl))) (SX_cons (SX_ret (SE_callR (n := 5) l_mpf_mul (g_mpf_mul hK) hK rfl hrk (SEs_cons (SE_name (i := 0) rfl) (SEs_cons (SE_callR (n := 5) l_from_int (g_from_int hK) hK rfl hrk (SEs_cons (SE_name (i := 1) rfl) SEs_nil)) (SEs_cons (SE_name (i := 2) rfl) (SEs_cons (SE_name (i := 3) rfl) SEs_nil))))))
  SX_nil)
  SX_nil)
  (SX_cons (SX_if (ST_not (ST_val (SE_name (i := 1) rfl))) (SX_cons (SX_ret (SE_glob l_fzero (g_fzero hK) (r_fzero hK)))
  SX_nil)
  SX_nil)
  (SX_cons (SX_if (ST_cmp c_lt (SE_name (i := 1) rfl) SE_int rfl) (SX_cons (SX_aug (i := 4) rfl i_xor SE_int)
  (SX_cons (SX_set (i := 1) rfl (SE_neg (SE_name (i := 1) rfl)))
  SX_nil))
  SX_nil)
  (SX_cons (SX_aug (i := 5) rfl i_mul (SE_name (i := 1) rfl))
  (SX_cons (SX_aug (i := 7) rfl i_add (SE_bin b_sub (SE_bl (SE_name (i := 1) rfl) rfl rfl) SE_int))
  (SX_cons (SX_aug (i := 7) rfl i_add (SE_bin b_shr (SE_name (i := 5) rfl) (SE_name (i := 7) rfl)))
  (SX_cons (SX_ret (SE_callR (n := 5) l_normalize (g_normalize hK) hK rfl hrk (SEs_cons (SE_name (i := 4) rfl) (SEs_cons (SE_name (i := 5) rfl) (SEs_cons (SE_name (i := 6) rfl) (SEs_cons (SE_name (i := 7) rfl) (SEs_cons (SE_name (i := 2) rfl) (SEs_cons (SE_name (i := 3) rfl) SEs_nil))))))))
  SX_nil))))))))

def q_mpf_shift_2 (cx : Cx) : Tx := tSeq (tRet (tTup (tCons (tName 2) (tCons (tName 3) (tCons (tBin kAdd (tName 4) (tName 1)) (tCons (tName 5) tNil))))))
  tSkip
def q_mpf_shift_1 (cx : Cx) : Tx := tSeq (tIf (tNotT (tTruth (tName 3))) (tSeq (tRet (tName 0))
  tSkip)
  tSkip)
  (q_mpf_shift_2 cx)
theorem s_mpf_shift_1 {ρ σ P} (h : ∀ R : Tx, R = q_mpf_shift_2 cx → tSeq (tIf (tNotT (tTruth (tName 3))) (tSeq (tRet (tName 0))
  tSkip)
  tSkip) R ρ σ P) : q_mpf_shift_1 cx ρ σ P := h _ rfl
def q_mpf_shift (cx : Cx) : Tx := tSeq (tUnpack [2, 3, 4, 5] (tName 0))
  (q_mpf_shift_1 cx)
theorem s_mpf_shift {ρ σ P} (h : ∀ R : Tx, R = q_mpf_shift_1 cx → tSeq (tUnpack [2, 3, 4, 5] (tName 0)) R ρ σ P) : q_mpf_shift cx ρ σ P := h _ rfl
abbrev ns_mpf_shift : List Str := [Str.ofString "s", Str.ofString "n", Str.ofString "sign", Str.ofString "man", Str.ofString "exp", Str.ofString "bc"]
theorem w_mpf_shift (hK : KK cx) {args : List PyData} {out : Except Exn PyData} (hl : args.length = 2) (hvc : q_mpf_shift cx (valSlots (args ++ []) 4) [] (callPost out)) : CallOK cx 269 0 args out := by
  refine call_ok (n := 4) (dfl := []) (tx := q_mpf_shift cx) [Str.ofString "s", Str.ofString "n"] ns_mpf_shift [] hK rfl (by kernel_rfl) (fun us s hu hk => ?_) (fun _ _ _ _ => Rds.nil) (by rw [List.length_append, hl]; rfl) (fun i x h => ?_) (by decide +kernel) (by decide +kernel) rfl rfl rfl (by decide) (fun fc hcs hrk => ?_) hvc
  · rw [hl] at hu
    obtain ⟨u0, u1, rfl⟩ := len_2 hu
    exact BindsTo.of_eq rfl
  · exact nth_sub (by decide +kernel) h
  · skip
    exact (SX_cons (SX_unpack (xs := [Str.ofString "sign", Str.ofString "man", Str.ofString "exp", Str.ofString "bc"]) (SE_name (i := 0) rfl) rfl (NameElts.cons (NameElts.cons (NameElts.cons (NameElts.cons NameElts.nil)))) rfl rfl)
  (SX_cons (SX_if (ST_not (ST_val (SE_name (i := 3) rfl))) (SX_cons (SX_ret (SE_name (i := 0) rfl))
  SX_nil)
  SX_nil)
  (SX_cons (SX_ret (SE_tup (SEs_cons (SE_name (i := 2) rfl) (SEs_cons (SE_name (i := 3) rfl) (SEs_cons (SE_bin b_add (SE_name (i := 4) rfl) (SE_name (i := 1) rfl)) (SEs_cons (SE_name (i := 5) rfl) SEs_nil))))))
  SX_nil)))

def q_mpf_frexp_2 (cx : Cx) : Tx := tSeq (tRet (tTup (tCons (tCall cx 1 269 (tCons (tName 0) (tCons (tBin kSub (tNeg (tName 4)) (tName 3)) tNil))) (tCons (tBin kAdd (tName 4) (tName 3)) tNil))))
  tSkip
def q_mpf_frexp_1 (cx : Cx) : Tx := tSeq (tIf (tNotT (tTruth (tName 2))) (tSeq (tIf (tTest (tBin kEq (tName 0) (tGlob p_fzero))) (tSeq (tRet (tTup (tCons (tGlob p_fzero) (tCons (tInt 0) tNil))))
  tSkip)
  (tSeq (fun _ _ _ => False)
  tSkip))
  tSkip)
  tSkip)
  (q_mpf_frexp_2 cx)
theorem s_mpf_frexp_1 {ρ σ P} (h : ∀ R : Tx, R = q_mpf_frexp_2 cx → tSeq (tIf (tNotT (tTruth (tName 2))) (tSeq (tIf (tTest (tBin kEq (tName 0) (tGlob p_fzero))) (tSeq (tRet (tTup (tCons (tGlob p_fzero) (tCons (tInt 0) tNil))))
  tSkip)
  (tSeq (fun _ _ _ => False)
  tSkip))
  tSkip)
  tSkip) R ρ σ P) : q_mpf_frexp_1 cx ρ σ P := h _ rfl
def q_mpf_frexp (cx : Cx) : Tx := tSeq (tUnpack [1, 2, 3, 4] (tName 0))
  (q_mpf_frexp_1 cx)
theorem s_mpf_frexp {ρ σ P} (h : ∀ R : Tx, R = q_mpf_frexp_1 cx → tSeq (tUnpack [1, 2, 3, 4] (tName 0)) R ρ σ P) : q_mpf_frexp cx ρ σ P := h _ rfl
abbrev ns_mpf_frexp : List Str := [Str.ofString "x", Str.ofString "sign", Str.ofString "man", Str.ofString "exp", Str.ofString "bc"]
theorem w_mpf_frexp (hK : KK cx) {args : List PyData} {out : Except Exn PyData} (hl : args.length = 1) (hvc : q_mpf_frexp cx (valSlots (args ++ []) 4) [] (callPost out)) : CallOK cx 276 1 args out := by
  refine call_ok (n := 4) (dfl := []) (tx := q_mpf_frexp cx) [Str.ofString "x"] ns_mpf_frexp [] hK rfl (by kernel_rfl) (fun us s hu hk => ?_) (fun _ _ _ _ => Rds.nil) (by rw [List.length_append, hl]; rfl) (fun i x h => ?_) (by decide +kernel) (by decide +kernel) rfl rfl rfl (by decide) (fun fc hcs hrk => ?_) hvc
  · rw [hl] at hu
    obtain ⟨u0, rfl⟩ := len_1 hu
    exact BindsTo.of_eq rfl
  · exact nth_sub (by decide +kernel) h
  · have l_fzero : fc.cs.names.lookup (Str.ofString "fzero") = some .globalImplicit := by rw [hcs]; rfl
    have l_mpf_shift : fc.cs.names.lookup (Str.ofString "mpf_shift") = some .globalImplicit := by rw [hcs]; rfl
    exact (SX_cons (SX_unpack (xs := [Str.ofString "sign", Str.ofString "man", Str.ofString "exp", Str.ofString "bc"]) (SE_name (i := 0) rfl) rfl (NameElts.cons (NameElts.cons (NameElts.cons (NameElts.cons NameElts.nil)))) rfl rfl)
  (SX_cons (SX_if (ST_not (ST_val (SE_name (i := 2) rfl))) (SX_cons (SX_if (ST_cmp c_eq (SE_name (i := 0) rfl) (SE_glob l_fzero (g_fzero hK) (r_fzero hK)) rfl) (SX_cons (SX_ret (SE_tup (SEs_cons (SE_glob l_fzero (g_fzero hK) (r_fzero hK)) (SEs_cons SE_int SEs_nil))))
  SX_nil)
  (SX_cons SX1_false
  SX_nil))
  SX_nil)
  SX_nil)
  (SX_cons (SX_ret (SE_tup (SEs_cons (SE_callR (n := 1) l_mpf_shift (g_mpf_shift hK) hK rfl hrk (SEs_cons (SE_name (i := 0) rfl) (SEs_cons (SE_bin b_sub (SE_neg (SE_name (i := 4) rfl)) (SE_name (i := 3) rfl)) SEs_nil))) (SEs_cons (SE_bin b_add (SE_name (i := 4) rfl) (SE_name (i := 3) rfl)) SEs_nil))))
  SX_nil)))

def q_mpf_div_10 (cx : Cx) : Tx := tSeq (tRet (tCall cx 3 80 (tCons (tName 14) (tCons (tName 16) (tCons (tBin kSub (tBin kSub (tName 6) (tName 10)) (tName 15)) (tCons (tName 18) (tCons (tOr (tName 2) (tName 18)) (tCons (tName 3) tNil))))))))
  tSkip
def q_mpf_div_9 (cx : Cx) : Tx := tSeq (tSet 18 (tBl (tName 16)))
  (q_mpf_div_10 cx)
theorem s_mpf_div_9 {ρ σ P} (h : ∀ R : Tx, R = q_mpf_div_10 cx → tSeq (tSet 18 (tBl (tName 16))) R ρ σ P) : q_mpf_div_9 cx ρ σ P := h _ rfl
def q_mpf_div_8 (cx : Cx) : Tx := tSeq (tIf (tTruth (tName 17)) (tSeq (tSet 16 (tBin kAdd (tBin kShl (tName 16) (tInt 1)) (tInt 1)))
  (tSeq (tAug 15 kAdd (tInt 1))
  tSkip))
  tSkip)
  (q_mpf_div_9 cx)
theorem s_mpf_div_8 {ρ σ P} (h : ∀ R : Tx, R = q_mpf_div_9 cx → tSeq (tIf (tTruth (tName 17)) (tSeq (tSet 16 (tBin kAdd (tBin kShl (tName 16) (tInt 1)) (tInt 1)))
  (tSeq (tAug 15 kAdd (tInt 1))
  tSkip))
  tSkip) R ρ σ P) : q_mpf_div_8 cx ρ σ P := h _ rfl
def q_mpf_div_7 (cx : Cx) : Tx := tSeq (tUnpack [16, 17] (tB kDivmod (tCons (tBin kShl (tName 5) (tName 15)) (tCons (tName 9) tNil))))
  (q_mpf_div_8 cx)
theorem s_mpf_div_7 {ρ σ P} (h : ∀ R : Tx, R = q_mpf_div_8 cx → tSeq (tUnpack [16, 17] (tB kDivmod (tCons (tBin kShl (tName 5) (tName 15)) (tCons (tName 9) tNil)))) R ρ σ P) : q_mpf_div_7 cx ρ σ P := h _ rfl
def q_mpf_div_6 (cx : Cx) : Tx := tSeq (tIf (tTest (tBin kLt (tName 15) (tInt 5))) (tSeq (tSet 15 (tInt 5))
  tSkip)
  tSkip)
  (q_mpf_div_7 cx)
theorem s_mpf_div_6 {ρ σ P} (h : ∀ R : Tx, R = q_mpf_div_7 cx → tSeq (tIf (tTest (tBin kLt (tName 15) (tInt 5))) (tSeq (tSet 15 (tInt 5))
  tSkip)
  tSkip) R ρ σ P) : q_mpf_div_6 cx ρ σ P := h _ rfl
def q_mpf_div_5 (cx : Cx) : Tx := tSeq (tIf (tNotT (tTruth (tName 2))) (tSeq (tSet 15 (tBin kAdd (tBin kAdd (tBin kSub (tB kMax (tCons (tName 7) (tCons (tName 11) tNil))) (tName 7)) (tName 11)) (tInt 5)))
  tSkip)
  (tSeq (tSet 15 (tBin kAdd (tBin kAdd (tBin kSub (tName 2) (tName 7)) (tName 11)) (tInt 5)))
  tSkip))
  (q_mpf_div_6 cx)
theorem s_mpf_div_5 {ρ σ P} (h : ∀ R : Tx, R = q_mpf_div_6 cx → tSeq (tIf (tNotT (tTruth (tName 2))) (tSeq (tSet 15 (tBin kAdd (tBin kAdd (tBin kSub (tB kMax (tCons (tName 7) (tCons (tName 11) tNil))) (tName 7)) (tName 11)) (tInt 5)))
  tSkip)
  (tSeq (tSet 15 (tBin kAdd (tBin kAdd (tBin kSub (tName 2) (tName 7)) (tName 11)) (tInt 5)))
  tSkip)) R ρ σ P) : q_mpf_div_5 cx ρ σ P := h _ rfl
def q_mpf_div_4 (cx : Cx) : Tx := tSeq (tIf (tTest (tBin kEq (tName 9) (tInt 1))) (tSeq (tRet (tCall cx 3 80 (tCons (tName 14) (tCons (tName 5) (tCons (tBin kSub (tName 6) (tName 10)) (tCons (tName 7) (tCons (tName 2) (tCons (tName 3) tNil))))))))
  tSkip)
  tSkip)
  (q_mpf_div_5 cx)
theorem s_mpf_div_4 {ρ σ P} (h : ∀ R : Tx, R = q_mpf_div_5 cx → tSeq (tIf (tTest (tBin kEq (tName 9) (tInt 1))) (tSeq (tRet (tCall cx 3 80 (tCons (tName 14) (tCons (tName 5) (tCons (tBin kSub (tName 6) (tName 10)) (tCons (tName 7) (tCons (tName 2) (tCons (tName 3) tNil))))))))
  tSkip)
  tSkip) R ρ σ P) : q_mpf_div_4 cx ρ σ P := h _ rfl
def q_mpf_div_3 (cx : Cx) : Tx := tSeq (tSet 14 (tBin kXor (tName 4) (tName 8)))
  (q_mpf_div_4 cx)
theorem s_mpf_div_3 {ρ σ P} (h : ∀ R : Tx, R = q_mpf_div_4 cx → tSeq (tSet 14 (tBin kXor (tName 4) (tName 8))) R ρ σ P) : q_mpf_div_3 cx ρ σ P := h _ rfl
def q_mpf_div_2 (cx : Cx) : Tx := tSeq (tIf (tOrT (tNotT (tTruth (tName 5))) (tOrT (tNotT (tTruth (tName 9))) tFalse)) (tSeq (tIf (tTest (tBin kEq (tName 0) (tGlob p_fzero))) (tSeq (tIf (tTest (tBin kEq (tName 1) (tGlob p_fzero))) (tSeq (tRaise .zde)
  tSkip)
  tSkip)
  (tSeq (tIf (tTest (tBin kEq (tName 1) (tGlob p_fnan))) (tSeq (tRet (tGlob p_fnan))
  tSkip)
  tSkip)
  (tSeq (tRet (tGlob p_fzero))
  tSkip)))
  tSkip)
  (tSeq (tIf (tTest (tBin kEq (tName 1) (tGlob p_fzero))) (tSeq (tRaise .zde)
  tSkip)
  tSkip)
  (tSeq (tSet 12 (tAnd (tNot (tName 5)) (tName 6)))
  (tSeq (tSet 13 (tAnd (tNot (tName 9)) (tName 10)))
  (tSeq (tIf (tAndT (tTruth (tName 12)) (tAndT (tTruth (tName 13)) tTrue)) (tSeq (tRet (tGlob p_fnan))
  tSkip)
  tSkip)
  (tSeq (tIf (tOrT (tTest (tBin kEq (tName 0) (tGlob p_fnan))) (tOrT (tTest (tBin kEq (tName 1) (tGlob p_fnan))) tFalse)) (tSeq (tRet (tGlob p_fnan))
  tSkip)
  tSkip)
  (tSeq (tIf (tNotT (tTruth (tName 13))) (tSeq (tIf (tTest (tBin kEq (tName 1) (tGlob p_fzero))) (tSeq (tRet (tGlob p_fnan))
  tSkip)
  tSkip)
  (tSeq (fun _ _ _ => False)
  tSkip))
  tSkip)
  (tSeq (tRet (tGlob p_fzero))
  tSkip))))))))
  tSkip)
  (q_mpf_div_3 cx)
theorem s_mpf_div_2 {ρ σ P} (h : ∀ R : Tx, R = q_mpf_div_3 cx → tSeq (tIf (tOrT (tNotT (tTruth (tName 5))) (tOrT (tNotT (tTruth (tName 9))) tFalse)) (tSeq (tIf (tTest (tBin kEq (tName 0) (tGlob p_fzero))) (tSeq (tIf (tTest (tBin kEq (tName 1) (tGlob p_fzero))) (tSeq (tRaise .zde)
  tSkip)
  tSkip)
  (tSeq (tIf (tTest (tBin kEq (tName 1) (tGlob p_fnan))) (tSeq (tRet (tGlob p_fnan))
  tSkip)
  tSkip)
  (tSeq (tRet (tGlob p_fzero))
  tSkip)))
  tSkip)
  (tSeq (tIf (tTest (tBin kEq (tName 1) (tGlob p_fzero))) (tSeq (tRaise .zde)
  tSkip)
  tSkip)
  (tSeq (tSet 12 (tAnd (tNot (tName 5)) (tName 6)))
  (tSeq (tSet 13 (tAnd (tNot (tName 9)) (tName 10)))
  (tSeq (tIf (tAndT (tTruth (tName 12)) (tAndT (tTruth (tName 13)) tTrue)) (tSeq (tRet (tGlob p_fnan))
  tSkip)
  tSkip)
  (tSeq (tIf (tOrT (tTest (tBin kEq (tName 0) (tGlob p_fnan))) (tOrT (tTest (tBin kEq (tName 1) (tGlob p_fnan))) tFalse)) (tSeq (tRet (tGlob p_fnan))
  tSkip)
  tSkip)
  (tSeq (tIf (tNotT (tTruth (tName 13))) (tSeq (tIf (tTest (tBin kEq (tName 1) (tGlob p_fzero))) (tSeq (tRet (tGlob p_fnan))
  tSkip)
  tSkip)
  (tSeq (fun _ _ _ => False)
  tSkip))
  tSkip)
  (tSeq (tRet (tGlob p_fzero))
  tSkip))))))))
  tSkip) R ρ σ P) : q_mpf_div_2 cx ρ σ P := h _ rfl
def q_mpf_div_1 (cx : Cx) : Tx := tSeq (tUnpack [8, 9, 10, 11] (tName 1))
  (q_mpf_div_2 cx)
theorem s_mpf_div_1 {ρ σ P} (h : ∀ R : Tx, R = q_mpf_div_2 cx → tSeq (tUnpack [8, 9, 10, 11] (tName 1)) R ρ σ P) : q_mpf_div_1 cx ρ σ P := h _ rfl
def q_mpf_div (cx : Cx) : Tx := tSeq (tUnpack [4, 5, 6, 7] (tName 0))
  (q_mpf_div_1 cx)
theorem s_mpf_div {ρ σ P} (h : ∀ R : Tx, R = q_mpf_div_1 cx → tSeq (tUnpack [4, 5, 6, 7] (tName 0)) R ρ σ P) : q_mpf_div cx ρ σ P := h _ rfl
abbrev ns_mpf_div : List Str := [Str.ofString "s", Str.ofString "t", Str.ofString "prec", Str.ofString "rnd", Str.ofString "ssign", Str.ofString "sman", Str.ofString "sexp", Str.ofString "sbc", Str.ofString "tsign", Str.ofString "tman", Str.ofString "texp", Str.ofString "tbc", Str.ofString "s_special", Str.ofString "t_special", Str.ofString "sign", Str.ofString "extra", Str.ofString "quot", Str.ofString "rem", Str.ofString "bc"]
theorem w_mpf_div4 (hK : KK cx) {args : List PyData} {out : Except Exn PyData} (hl : args.length = 4) (hvc : q_mpf_div cx (valSlots (args ++ []) 15) [] (callPost out)) : CallOK cx 284 3 args out := by
  refine call_ok (n := 15) (dfl := []) (tx := q_mpf_div cx) [Str.ofString "s", Str.ofString "t", Str.ofString "prec", Str.ofString "rnd"] ns_mpf_div [] hK rfl (by kernel_rfl) (fun us s hu hk => ?_) (fun _ _ _ _ => Rds.nil) (by rw [List.length_append, hl]; rfl) (fun i x h => ?_) (by decide +kernel) (by decide +kernel) rfl rfl rfl (by decide) (fun fc hcs hrk => ?_) hvc
  · rw [hl] at hu
    obtain ⟨u0, u1, u2, u3, rfl⟩ := len_4 hu
    exact binds_K (K := hd.heap_39 cx.w.params) (hK ▸ hk) rfl rfl rfl rfl rfl
  · exact nth_sub (by decide +kernel) h
  · have l_fzero : fc.cs.names.lookup (Str.ofString "fzero") = some .globalImplicit := by rw [hcs]; rfl
    have l_mpf_sign : fc.cs.names.lookup (Str.ofString "mpf_sign") = some .globalImplicit := by rw [hcs]; rfl
    have l_fnan : fc.cs.names.lookup (Str.ofString "fnan") = some .globalImplicit := by rw [hcs]; rfl
    have l_ZeroDivisionError : fc.cs.names.lookup (Str.ofString "ZeroDivisionError") = some .globalImplicit := by rw [hcs]; rfl
    have l_normalize : fc.cs.names.lookup (Str.ofString "normalize") = some .globalImplicit := by rw [hcs]; rfl
    have l_max : fc.cs.names.lookup (Str.ofString "max") = some .globalImplicit := by rw [hcs]; rfl
    have l_divmod : fc.cs.names.lookup (Str.ofString "divmod") = some .globalImplicit := by rw [hcs]; rfl
    exact (SX_cons (SX_unpack (xs := [Str.ofString "ssign", Str.ofString "sman", Str.ofString "sexp", Str.ofString "sbc"]) (SE_name (i := 0) rfl) rfl (NameElts.cons (NameElts.cons (NameElts.cons (NameElts.cons NameElts.nil)))) rfl rfl)
  (SX_cons (SX_unpack (xs := [Str.ofString "tsign", Str.ofString "tman", Str.ofString "texp", Str.ofString "tbc"]) (SE_name (i := 1) rfl) rfl (NameElts.cons (NameElts.cons (NameElts.cons (NameElts.cons NameElts.nil)))) rfl rfl)
  (SX_cons (SX_if (ST_bool (STs_or_cons (ST_not (ST_val (SE_name (i := 5) rfl))) (STs_or_cons (ST_not (ST_val (SE_name (i := 9) rfl))) STs_or_nil))) (SX_cons (SX_if (ST_cmp c_eq (SE_name (i := 0) rfl) (SE_glob l_fzero (g_fzero hK) (r_fzero hK)) rfl) (SX_cons (SX_if (ST_cmp c_eq (SE_name (i := 1) rfl) (SE_glob l_fzero (g_fzero hK) (r_fzero hK)) rfl) (SX_cons (SX_zde l_ZeroDivisionError (n_ZeroDivisionError hK))
  SX_nil)
  SX_nil)
  (SX_cons (SX_if (ST_cmp c_eq (SE_name (i := 1) rfl) (SE_glob l_fnan (g_fnan hK) (r_fnan hK)) rfl) (SX_cons (SX_ret (SE_glob l_fnan (g_fnan hK) (r_fnan hK)))
  SX_nil)
  SX_nil)
  (SX_cons (SX_ret (SE_glob l_fzero (g_fzero hK) (r_fzero hK)))
  SX_nil)))
  SX_nil)
  (SX_cons (SX_if (ST_cmp c_eq (SE_name (i := 1) rfl) (SE_glob l_fzero (g_fzero hK) (r_fzero hK)) rfl) (SX_cons (SX_zde l_ZeroDivisionError (n_ZeroDivisionError hK))
  SX_nil)
  SX_nil)
  (SX_cons (SX_set (i := 12) rfl (SE_and (SE_not (SE_name (i := 5) rfl)) (SE_one (SE_name (i := 6) rfl))))
  (SX_cons (SX_set (i := 13) rfl (SE_and (SE_not (SE_name (i := 9) rfl)) (SE_one (SE_name (i := 10) rfl))))
  (SX_cons (SX_if (ST_bool (STs_and_cons (ST_val (SE_name (i := 12) rfl)) (STs_and_cons (ST_val (SE_name (i := 13) rfl)) STs_and_nil))) (SX_cons (SX_ret (SE_glob l_fnan (g_fnan hK) (r_fnan hK)))
  SX_nil)
  SX_nil)
  (SX_cons (SX_if (ST_bool (STs_or_cons (ST_cmp c_eq (SE_name (i := 0) rfl) (SE_glob l_fnan (g_fnan hK) (r_fnan hK)) rfl) (STs_or_cons (ST_cmp c_eq (SE_name (i := 1) rfl) (SE_glob l_fnan (g_fnan hK) (r_fnan hK)) rfl) STs_or_nil))) (SX_cons (SX_ret (SE_glob l_fnan (g_fnan hK) (r_fnan hK)))
  SX_nil)
  SX_nil)
  (SX_cons (SX_if (ST_not (ST_val (SE_name (i := 13) rfl))) (SX_cons (SX_if (ST_cmp c_eq (SE_name (i := 1) rfl) (SE_glob l_fzero (g_fzero hK) (r_fzero hK)) rfl) (SX_cons (SX_ret (SE_glob l_fnan (g_fnan hK) (r_fnan hK)))
  SX_nil)
  SX_nil)
  (SX_cons SX1_false
  SX_nil))
  SX_nil)
  (SX_cons (SX_ret (SE_glob l_fzero (g_fzero hK) (r_fzero hK)))
  SX_nil))))))))
  SX_nil)
  (SX_cons (SX_set (i := 14) rfl (SE_bin b_xor (SE_name (i := 4) rfl) (SE_name (i := 8) rfl)))
  (SX_cons (SX_if (ST_cmp c_eq (SE_name (i := 9) rfl) SE_int rfl) (SX_cons (SX_ret (SE_callR (n := 3) l_normalize (g_normalize hK) hK rfl hrk (SEs_cons (SE_name (i := 14) rfl) (SEs_cons (SE_name (i := 5) rfl) (SEs_cons (SE_bin b_sub (SE_name (i := 6) rfl) (SE_name (i := 10) rfl)) (SEs_cons (SE_name (i := 7) rfl) (SEs_cons (SE_name (i := 2) rfl) (SEs_cons (SE_name (i := 3) rfl) SEs_nil))))))))
  SX_nil)
  SX_nil)
  (SX_cons (SX_if (ST_not (ST_val (SE_name (i := 2) rfl))) (SX_cons (SX_set (i := 15) rfl (SE_bin b_add (SE_bin b_add (SE_bin b_sub (SE_bcall l_max (n_max hK) Boot.«max» bc_max (SEs_cons (SE_name (i := 7) rfl) (SEs_cons (SE_name (i := 11) rfl) SEs_nil))) (SE_name (i := 7) rfl)) (SE_name (i := 11) rfl)) SE_int))
  SX_nil)
  (SX_cons (SX_set (i := 15) rfl (SE_bin b_add (SE_bin b_add (SE_bin b_sub (SE_name (i := 2) rfl) (SE_name (i := 7) rfl)) (SE_name (i := 11) rfl)) SE_int))
  SX_nil))
  (SX_cons (SX_if (ST_cmp c_lt (SE_name (i := 15) rfl) SE_int rfl) (SX_cons (SX_set (i := 15) rfl SE_int)
  SX_nil)
  SX_nil)
  (SX_cons (SX_unpack (xs := [Str.ofString "quot", Str.ofString "rem"]) (SE_bcall l_divmod (n_divmod hK) Boot.«divmod» bc_divmod (SEs_cons (SE_bin b_shl (SE_name (i := 5) rfl) (SE_name (i := 15) rfl)) (SEs_cons (SE_name (i := 9) rfl) SEs_nil))) rfl (NameElts.cons (NameElts.cons NameElts.nil)) rfl rfl)
  (SX_cons (SX_if (ST_val (SE_name (i := 17) rfl)) (SX_cons (SX_set (i := 16) rfl (SE_bin b_add (SE_bin b_shl (SE_name (i := 16) rfl) SE_int) SE_int))
  (SX_cons (SX_aug (i := 15) rfl i_add SE_int)
  SX_nil))
  SX_nil)
  (SX_cons (SX_set (i := 18) rfl (SE_bl (SE_name (i := 16) rfl) rfl rfl))
  (SX_cons (SX_ret (SE_callR (n := 3) l_normalize (g_normalize hK) hK rfl hrk (SEs_cons (SE_name (i := 14) rfl) (SEs_cons (SE_name (i := 16) rfl) (SEs_cons (SE_bin b_sub (SE_bin b_sub (SE_name (i := 6) rfl) (SE_name (i := 10) rfl)) (SE_name (i := 15) rfl)) (SEs_cons (SE_name (i := 18) rfl) (SEs_cons (SE_or (SE_name (i := 2) rfl) (SE_one (SE_name (i := 18) rfl))) (SEs_cons (SE_name (i := 3) rfl) SEs_nil))))))))
  SX_nil)))))))))))

def q_mpf_rdiv_int_6 (cx : Cx) : Tx := tSeq (tRet (tCall cx 5 80 (tCons (tName 4) (tCons (tName 9) (tCons (tBin kSub (tNeg (tName 6)) (tName 8)) (tCons (tBl (tName 9)) (tCons (tName 2) (tCons (tName 3) tNil))))))))
  tSkip
def q_mpf_rdiv_int_5 (cx : Cx) : Tx := tSeq (tIf (tTruth (tName 10)) (tSeq (tSet 9 (tBin kAdd (tBin kShl (tName 9) (tInt 1)) (tInt 1)))
  (tSeq (tAug 8 kAdd (tInt 1))
  (tSeq (tRet (tCall cx 5 80 (tCons (tName 4) (tCons (tName 9) (tCons (tBin kSub (tNeg (tName 6)) (tName 8)) (tCons (tBl (tName 9)) (tCons (tName 2) (tCons (tName 3) tNil))))))))
  tSkip)))
  tSkip)
  (q_mpf_rdiv_int_6 cx)
theorem s_mpf_rdiv_int_5 {ρ σ P} (h : ∀ R : Tx, R = q_mpf_rdiv_int_6 cx → tSeq (tIf (tTruth (tName 10)) (tSeq (tSet 9 (tBin kAdd (tBin kShl (tName 9) (tInt 1)) (tInt 1)))
  (tSeq (tAug 8 kAdd (tInt 1))
  (tSeq (tRet (tCall cx 5 80 (tCons (tName 4) (tCons (tName 9) (tCons (tBin kSub (tNeg (tName 6)) (tName 8)) (tCons (tBl (tName 9)) (tCons (tName 2) (tCons (tName 3) tNil))))))))
  tSkip)))
  tSkip) R ρ σ P) : q_mpf_rdiv_int_5 cx ρ σ P := h _ rfl
def q_mpf_rdiv_int_4 (cx : Cx) : Tx := tSeq (tUnpack [9, 10] (tB kDivmod (tCons (tBin kShl (tName 0) (tName 8)) (tCons (tName 5) tNil))))
  (q_mpf_rdiv_int_5 cx)
theorem s_mpf_rdiv_int_4 {ρ σ P} (h : ∀ R : Tx, R = q_mpf_rdiv_int_5 cx → tSeq (tUnpack [9, 10] (tB kDivmod (tCons (tBin kShl (tName 0) (tName 8)) (tCons (tName 5) tNil)))) R ρ σ P) : q_mpf_rdiv_int_4 cx ρ σ P := h _ rfl
def q_mpf_rdiv_int_3 (cx : Cx) : Tx := tSeq (tSet 8 (tBin kAdd (tBin kAdd (tName 2) (tName 7)) (tInt 5)))
  (q_mpf_rdiv_int_4 cx)
theorem s_mpf_rdiv_int_3 {ρ σ P} (h : ∀ R : Tx, R = q_mpf_rdiv_int_4 cx → tSeq (tSet 8 (tBin kAdd (tBin kAdd (tName 2) (tName 7)) (tInt 5))) R ρ σ P) : q_mpf_rdiv_int_3 cx ρ σ P := h _ rfl
def q_mpf_rdiv_int_2 (cx : Cx) : Tx := tSeq (tIf (tTest (tBin kLt (tName 0) (tInt 0))) (tSeq (tAug 4 kXor (tInt 1))
  (tSeq (tSet 0 (tNeg (tName 0)))
  tSkip))
  tSkip)
  (q_mpf_rdiv_int_3 cx)
theorem s_mpf_rdiv_int_2 {ρ σ P} (h : ∀ R : Tx, R = q_mpf_rdiv_int_3 cx → tSeq (tIf (tTest (tBin kLt (tName 0) (tInt 0))) (tSeq (tAug 4 kXor (tInt 1))
  (tSeq (tSet 0 (tNeg (tName 0)))
  tSkip))
  tSkip) R ρ σ P) : q_mpf_rdiv_int_2 cx ρ σ P := h _ rfl
def q_mpf_rdiv_int_1 (cx : Cx) : Tx := tSeq (tIf (tOrT (tNotT (tTruth (tName 0))) (tOrT (tNotT (tTruth (tName 5))) tFalse)) (tSeq (tRet (tCall cx 5 284 (tCons (tCall cx 5 96 (tCons (tName 0) tNil)) (tCons (tName 1) (tCons (tName 2) (tCons (tName 3) tNil))))))
  tSkip)
  tSkip)
  (q_mpf_rdiv_int_2 cx)
theorem s_mpf_rdiv_int_1 {ρ σ P} (h : ∀ R : Tx, R = q_mpf_rdiv_int_2 cx → tSeq (tIf (tOrT (tNotT (tTruth (tName 0))) (tOrT (tNotT (tTruth (tName 5))) tFalse)) (tSeq (tRet (tCall cx 5 284 (tCons (tCall cx 5 96 (tCons (tName 0) tNil)) (tCons (tName 1) (tCons (tName 2) (tCons (tName 3) tNil))))))
  tSkip)
  tSkip) R ρ σ P) : q_mpf_rdiv_int_1 cx ρ σ P := h _ rfl
def q_mpf_rdiv_int (cx : Cx) : Tx := tSeq (tUnpack [4, 5, 6, 7] (tName 1))
  (q_mpf_rdiv_int_1 cx)
theorem s_mpf_rdiv_int {ρ σ P} (h : ∀ R : Tx, R = q_mpf_rdiv_int_1 cx → tSeq (tUnpack [4, 5, 6, 7] (tName 1)) R ρ σ P) : q_mpf_rdiv_int cx ρ σ P := h _ rfl
abbrev ns_mpf_rdiv_int : List Str := [Str.ofString "n", Str.ofString "t", Str.ofString "prec", Str.ofString "rnd", Str.ofString "sign", Str.ofString "man", Str.ofString "exp", Str.ofString "bc", Str.ofString "extra", Str.ofString "quot", Str.ofString "rem"]
theorem w_mpf_rdiv_int4 (hK : KK cx) {args : List PyData} {out : Except Exn PyData} (hl : args.length = 4) (hvc : q_mpf_rdiv_int cx (valSlots (args ++ []) 7) [] (callPost out)) : CallOK cx 292 5 args out := by
  refine call_ok (n := 7) (dfl := []) (tx := q_mpf_rdiv_int cx) [Str.ofString "n", Str.ofString "t", Str.ofString "prec", Str.ofString "rnd"] ns_mpf_rdiv_int [] hK rfl (by kernel_rfl) (fun us s hu hk => ?_) (fun _ _ _ _ => Rds.nil) (by rw [List.length_append, hl]; rfl) (fun i x h => ?_) (by decide +kernel) (by decide +kernel) rfl rfl rfl (by decide) (fun fc hcs hrk => ?_) hvc
  · rw [hl] at hu
    obtain ⟨u0, u1, u2, u3, rfl⟩ := len_4 hu
    exact binds_K (K := hd.heap_39 cx.w.params) (hK ▸ hk) rfl rfl rfl rfl rfl
  · exact nth_sub (by decide +kernel) h
  · have l_from_int : fc.cs.names.lookup (Str.ofString "from_int") = some .globalImplicit := by rw [hcs]; rfl
    have l_mpf_div : fc.cs.names.lookup (Str.ofString "mpf_div") = some .globalImplicit := by rw [hcs]; rfl
    have l_divmod : fc.cs.names.lookup (Str.ofString "divmod") = some .globalImplicit := by rw [hcs]; rfl
    have l_normalize : fc.cs.names.lookup (Str.ofString "normalize") = some .globalImplicit := by rw [hcs]; rfl
    exact (SX_cons (SX_unpack (xs := [Str.ofString "sign", Str.ofString "man", Str.ofString "exp", Str.ofString "bc"]) (SE_name (i := 1) rfl) rfl (NameElts.cons (NameElts.cons (NameElts.cons (NameElts.cons NameElts.nil)))) rfl rfl)
  (SX_cons (SX_if (ST_bool (STs_or_cons (ST_not (ST_val (SE_name (i := 0) rfl))) (STs_or_cons (ST_not (ST_val (SE_name (i := 5) rfl))) STs_or_nil))) (SX_cons (SX_ret (SE_callR (n := 5) l_mpf_div (g_mpf_div hK) hK rfl hrk (SEs_cons (SE_callR (n := 5) l_from_int (g_from_int hK) hK rfl hrk (SEs_cons (SE_name (i := 0) rfl) SEs_nil)) (SEs_cons (SE_name (i := 1) rfl) (SEs_cons (SE_name (i := 2) rfl) (SEs_cons (SE_name (i := 3) rfl) SEs_nil))))))
  SX_nil)
  SX_nil)
  (SX_cons (SX_if (ST_cmp c_lt (SE_name (i := 0) rfl) SE_int rfl) (SX_cons (SX_aug (i := 4) rfl i_xor SE_int)
  (SX_cons (SX_set (i := 0) rfl (SE_neg (SE_name (i := 0) rfl)))
  SX_nil))
  SX_nil)
  (SX_cons (SX_set (i := 8) rfl (SE_bin b_add (SE_bin b_add (SE_name (i := 2) rfl) (SE_name (i := 7) rfl)) SE_int))
  (SX_cons (SX_unpack (xs := [Str.ofString "quot", Str.ofString "rem"]) (SE_bcall l_divmod (n_divmod hK) Boot.«divmod» bc_divmod (SEs_cons (SE_bin b_shl (SE_name (i := 0) rfl) (SE_name (i := 8) rfl)) (SEs_cons (SE_name (i := 5) rfl) SEs_nil))) rfl (NameElts.cons (NameElts.cons NameElts.nil)) rfl rfl)
  (SX_cons (SX_if (ST_val (SE_name (i := 10) rfl)) (SX_cons (SX_set (i := 9) rfl (SE_bin b_add (SE_bin b_shl (SE_name (i := 9) rfl) SE_int) SE_int))
  (SX_cons (SX_aug (i := 8) rfl i_add SE_int)
  (SX_cons (SX_ret (SE_callR (n := 5) l_normalize (g_normalize hK) hK rfl hrk (SEs_cons (SE_name (i := 4) rfl) (SEs_cons (SE_name (i := 9) rfl) (SEs_cons (SE_bin b_sub (SE_neg (SE_name (i := 6) rfl)) (SE_name (i := 8) rfl)) (SEs_cons (SE_bl (SE_name (i := 9) rfl) rfl rfl) (SEs_cons (SE_name (i := 2) rfl) (SEs_cons (SE_name (i := 3) rfl) SEs_nil))))))))
  SX_nil)))
  SX_nil)
  (SX_cons (SX_ret (SE_callR (n := 5) l_normalize (g_normalize hK) hK rfl hrk (SEs_cons (SE_name (i := 4) rfl) (SEs_cons (SE_name (i := 9) rfl) (SEs_cons (SE_bin b_sub (SE_neg (SE_name (i := 6) rfl)) (SE_name (i := 8) rfl)) (SEs_cons (SE_bl (SE_name (i := 9) rfl) rfl rfl) (SEs_cons (SE_name (i := 2) rfl) (SEs_cons (SE_name (i := 3) rfl) SEs_nil))))))))
  SX_nil)))))))

def q_mpf_mod_10 (cx : Cx) : Tx := tSeq (tRet (tCall cx 3 80 (tCons (tName 14) (tCons (tName 13) (tCons (tName 12) (tCons (tBl (tName 13)) (tCons (tName 2) (tCons (tName 3) tNil))))))))
  tSkip
def q_mpf_mod_9 (cx : Cx) : Tx := tSeq (tIf (tTest (tBin kGe (tName 13) (tInt 0))) (tSeq (tSet 14 (tInt 0))
  tSkip)
  (tSeq (tSet 13 (tNeg (tName 13)))
  (tSeq (tSet 14 (tInt 1))
  tSkip)))
  (q_mpf_mod_10 cx)
theorem s_mpf_mod_9 {ρ σ P} (h : ∀ R : Tx, R = q_mpf_mod_10 cx → tSeq (tIf (tTest (tBin kGe (tName 13) (tInt 0))) (tSeq (tSet 14 (tInt 0))
  tSkip)
  (tSeq (tSet 13 (tNeg (tName 13)))
  (tSeq (tSet 14 (tInt 1))
  tSkip))) R ρ σ P) : q_mpf_mod_9 cx ρ σ P := h _ rfl
def q_mpf_mod_8 (cx : Cx) : Tx := tSeq (tSet 13 (tBin kMod (tBin kShl (tName 5) (tBin kSub (tName 6) (tName 12))) (tBin kShl (tName 9) (tBin kSub (tName 10) (tName 12)))))
  (q_mpf_mod_9 cx)
theorem s_mpf_mod_8 {ρ σ P} (h : ∀ R : Tx, R = q_mpf_mod_9 cx → tSeq (tSet 13 (tBin kMod (tBin kShl (tName 5) (tBin kSub (tName 6) (tName 12))) (tBin kShl (tName 9) (tBin kSub (tName 10) (tName 12))))) R ρ σ P) : q_mpf_mod_8 cx ρ σ P := h _ rfl
def q_mpf_mod_7 (cx : Cx) : Tx := tSeq (tSet 9 (tBin kMul (tBin kPow (tNeg (tInt 1)) (tName 8)) (tName 9)))
  (q_mpf_mod_8 cx)
theorem s_mpf_mod_7 {ρ σ P} (h : ∀ R : Tx, R = q_mpf_mod_8 cx → tSeq (tSet 9 (tBin kMul (tBin kPow (tNeg (tInt 1)) (tName 8)) (tName 9))) R ρ σ P) : q_mpf_mod_7 cx ρ σ P := h _ rfl
def q_mpf_mod_6 (cx : Cx) : Tx := tSeq (tSet 5 (tBin kMul (tBin kPow (tNeg (tInt 1)) (tName 4)) (tName 5)))
  (q_mpf_mod_7 cx)
theorem s_mpf_mod_6 {ρ σ P} (h : ∀ R : Tx, R = q_mpf_mod_7 cx → tSeq (tSet 5 (tBin kMul (tBin kPow (tNeg (tInt 1)) (tName 4)) (tName 5))) R ρ σ P) : q_mpf_mod_6 cx ρ σ P := h _ rfl
def q_mpf_mod_5 (cx : Cx) : Tx := tSeq (tSet 12 (tB kMin (tCons (tName 6) (tCons (tName 10) tNil))))
  (q_mpf_mod_6 cx)
theorem s_mpf_mod_5 {ρ σ P} (h : ∀ R : Tx, R = q_mpf_mod_6 cx → tSeq (tSet 12 (tB kMin (tCons (tName 6) (tCons (tName 10) tNil)))) R ρ σ P) : q_mpf_mod_5 cx ρ σ P := h _ rfl
def q_mpf_mod_4 (cx : Cx) : Tx := tSeq (tIf (tAndT (tTest (tBin kEq (tName 9) (tInt 1))) (tAndT (tTest (tBin kGt (tName 6) (tBin kAdd (tName 10) (tName 11)))) tTrue)) (tSeq (tRet (tGlob p_fzero))
  tSkip)
  tSkip)
  (q_mpf_mod_5 cx)
theorem s_mpf_mod_4 {ρ σ P} (h : ∀ R : Tx, R = q_mpf_mod_5 cx → tSeq (tIf (tAndT (tTest (tBin kEq (tName 9) (tInt 1))) (tAndT (tTest (tBin kGt (tName 6) (tBin kAdd (tName 10) (tName 11)))) tTrue)) (tSeq (tRet (tGlob p_fzero))
  tSkip)
  tSkip) R ρ σ P) : q_mpf_mod_4 cx ρ σ P := h _ rfl
def q_mpf_mod_3 (cx : Cx) : Tx := tSeq (tIf (tAndT (tTest (tBin kEq (tName 4) (tName 8))) (tAndT (tTest (tBin kGt (tName 10) (tBin kAdd (tName 6) (tName 7)))) tTrue)) (tSeq (tRet (tName 0))
  tSkip)
  tSkip)
  (q_mpf_mod_4 cx)
theorem s_mpf_mod_3 {ρ σ P} (h : ∀ R : Tx, R = q_mpf_mod_4 cx → tSeq (tIf (tAndT (tTest (tBin kEq (tName 4) (tName 8))) (tAndT (tTest (tBin kGt (tName 10) (tBin kAdd (tName 6) (tName 7)))) tTrue)) (tSeq (tRet (tName 0))
  tSkip)
  tSkip) R ρ σ P) : q_mpf_mod_3 cx ρ σ P := h _ rfl
def q_mpf_mod_2 (cx : Cx) : Tx := tSeq (tIf (tOrT (tAndT (tNotT (tTruth (tName 5))) (tAndT (tTruth (tName 6)) tTrue)) (tOrT (tAndT (tNotT (tTruth (tName 9))) (tAndT (tTruth (tName 10)) tTrue)) tFalse)) (tSeq (tIf (tOrT (tTest (tBin kEq (tName 1) (tGlob p_finf))) (tOrT (tTest (tBin kEq (tName 1) (tGlob p_fninf))) tFalse)) (tSeq (tRet (tName 0))
  tSkip)
  tSkip)
  (tSeq (tRet (tGlob p_fnan))
  tSkip))
  tSkip)
  (q_mpf_mod_3 cx)
theorem s_mpf_mod_2 {ρ σ P} (h : ∀ R : Tx, R = q_mpf_mod_3 cx → tSeq (tIf (tOrT (tAndT (tNotT (tTruth (tName 5))) (tAndT (tTruth (tName 6)) tTrue)) (tOrT (tAndT (tNotT (tTruth (tName 9))) (tAndT (tTruth (tName 10)) tTrue)) tFalse)) (tSeq (tIf (tOrT (tTest (tBin kEq (tName 1) (tGlob p_finf))) (tOrT (tTest (tBin kEq (tName 1) (tGlob p_fninf))) tFalse)) (tSeq (tRet (tName 0))
  tSkip)
  tSkip)
  (tSeq (tRet (tGlob p_fnan))
  tSkip))
  tSkip) R ρ σ P) : q_mpf_mod_2 cx ρ σ P := h _ rfl
def q_mpf_mod_1 (cx : Cx) : Tx := tSeq (tUnpack [8, 9, 10, 11] (tName 1))
  (q_mpf_mod_2 cx)
theorem s_mpf_mod_1 {ρ σ P} (h : ∀ R : Tx, R = q_mpf_mod_2 cx → tSeq (tUnpack [8, 9, 10, 11] (tName 1)) R ρ σ P) : q_mpf_mod_1 cx ρ σ P := h _ rfl
def q_mpf_mod (cx : Cx) : Tx := tSeq (tUnpack [4, 5, 6, 7] (tName 0))
  (q_mpf_mod_1 cx)
theorem s_mpf_mod {ρ σ P} (h : ∀ R : Tx, R = q_mpf_mod_1 cx → tSeq (tUnpack [4, 5, 6, 7] (tName 0)) R ρ σ P) : q_mpf_mod cx ρ σ P := h _ rfl
abbrev ns_mpf_mod : List Str := [Str.ofString "s", Str.ofString "t", Str.ofString "prec", Str.ofString "rnd", Str.ofString "ssign", Str.ofString "sman", Str.ofString "sexp", Str.ofString "sbc", Str.ofString "tsign", Str.ofString "tman", Str.ofString "texp", Str.ofString "tbc", Str.ofString "base", Str.ofString "man", Str.ofString "sign"]
theorem w_mpf_mod4 (hK : KK cx) {args : List PyData} {out : Except Exn PyData} (hl : args.length = 4) (hvc : q_mpf_mod cx (valSlots (args ++ []) 11) [] (callPost out)) : CallOK cx 300 3 args out := by
  refine call_ok (n := 11) (dfl := []) (tx := q_mpf_mod cx) [Str.ofString "s", Str.ofString "t", Str.ofString "prec", Str.ofString "rnd"] ns_mpf_mod [] hK rfl (by kernel_rfl) (fun us s hu hk => ?_) (fun _ _ _ _ => Rds.nil) (by rw [List.length_append, hl]; rfl) (fun i x h => ?_) (by decide +kernel) (by decide +kernel) rfl rfl rfl (by decide) (fun fc hcs hrk => ?_) hvc
  · rw [hl] at hu
    obtain ⟨u0, u1, u2, u3, rfl⟩ := len_4 hu
    exact binds_K (K := hd.heap_39 cx.w.params) (hK ▸ hk) rfl rfl rfl rfl rfl
  · exact nth_sub (by decide +kernel) h
  · have l_fnan : fc.cs.names.lookup (Str.ofString "fnan") = some .globalImplicit := by rw [hcs]; rfl
    have l_fninf : fc.cs.names.lookup (Str.ofString "fninf") = some .globalImplicit := by rw [hcs]; rfl
    have l_finf : fc.cs.names.lookup (Str.ofString "finf") = some .globalImplicit := by rw [hcs]; rfl
    have l_fzero : fc.cs.names.lookup (Str.ofString "fzero") = some .globalImplicit := by rw [hcs]; rfl
    have l_min : fc.cs.names.lookup (Str.ofString "min") = some .globalImplicit := by rw [hcs]; rfl
    have l_normalize : fc.cs.names.lookup (Str.ofString "normalize") = some .globalImplicit := by rw [hcs]; rfl
    exact (SX_cons (SX_unpack (xs := [Str.ofString "ssign", Str.ofString "sman", Str.ofString "sexp", Str.ofString "sbc"]) (SE_name (i := 0) rfl) rfl (NameElts.cons (NameElts.cons (NameElts.cons (NameElts.cons NameElts.nil)))) rfl rfl)
  (SX_cons (SX_unpack (xs := [Str.ofString "tsign", Str.ofString "tman", Str.ofString "texp", Str.ofString "tbc"]) (SE_name (i := 1) rfl) rfl (NameElts.cons (NameElts.cons (NameElts.cons (NameElts.cons NameElts.nil)))) rfl rfl)
  (SX_cons (SX_if (ST_bool (STs_or_cons (ST_bool (STs_and_cons (ST_not (ST_val (SE_name (i := 5) rfl))) (STs_and_cons (ST_val (SE_name (i := 6) rfl)) STs_and_nil))) (STs_or_cons (ST_bool (STs_and_cons (ST_not (ST_val (SE_name (i := 9) rfl))) (STs_and_cons (ST_val (SE_name (i := 10) rfl)) STs_and_nil))) STs_or_nil))) (SX_cons (SX_if (ST_bool (STs_or_cons (ST_cmp c_eq (SE_name (i := 1) rfl) (SE_glob l_finf (g_finf hK) (r_finf hK)) rfl) (STs_or_cons (ST_cmp c_eq (SE_name (i := 1) rfl) (SE_glob l_fninf (g_fninf hK) (r_fninf hK)) rfl) STs_or_nil))) (SX_cons (SX_ret (SE_name (i := 0) rfl))
  SX_nil)
  SX_nil)
  (SX_cons (SX_ret (SE_glob l_fnan (g_fnan hK) (r_fnan hK)))
  SX_nil))
  SX_nil)
  (SX_cons (SX_if (ST_bool (STs_and_cons (ST_cmp c_eq (SE_name (i := 4) rfl) (SE_name (i := 8) rfl) rfl) (STs_and_cons (ST_cmp c_gt (SE_name (i := 10) rfl) (SE_bin b_add (SE_name (i := 6) rfl) (SE_name (i := 7) rfl)) rfl) STs_and_nil))) (SX_cons (SX_ret (SE_name (i := 0) rfl))
  SX_nil)
  SX_nil)
  (SX_cons (SX_if (ST_bool (STs_and_cons (ST_cmp c_eq (SE_name (i := 9) rfl) SE_int rfl) (STs_and_cons (ST_cmp c_gt (SE_name (i := 6) rfl) (SE_bin b_add (SE_name (i := 10) rfl) (SE_name (i := 11) rfl)) rfl) STs_and_nil))) (SX_cons (SX_ret (SE_glob l_fzero (g_fzero hK) (r_fzero hK)))
  SX_nil)
  SX_nil)
  (SX_cons (SX_set (i := 12) rfl (SE_bcall l_min (n_min hK) Boot.«min» bc_min (SEs_cons (SE_name (i := 6) rfl) (SEs_cons (SE_name (i := 10) rfl) SEs_nil))))
  (SX_cons (SX_set (i := 5) rfl (SE_bin b_mul (SE_bin b_pow (SE_neg SE_int) (SE_name (i := 4) rfl)) (SE_name (i := 5) rfl)))
  (SX_cons (SX_set (i := 9) rfl (SE_bin b_mul (SE_bin b_pow (SE_neg SE_int) (SE_name (i := 8) rfl)) (SE_name (i := 9) rfl)))
  (SX_cons (SX_set (i := 13) rfl (SE_bin b_mod (SE_bin b_shl (SE_name (i := 5) rfl) (SE_bin b_sub (SE_name (i := 6) rfl) (SE_name (i := 12) rfl))) (SE_bin b_shl (SE_name (i := 9) rfl) (SE_bin b_sub (SE_name (i := 10) rfl) (SE_name (i := 12) rfl)))))
  (SX_cons (SX_if (ST_cmp c_ge (SE_name (i := 13) rfl) SE_int rfl) (SX_cons (SX_set (i := 14) rfl SE_int)
  SX_nil)
  (SX_cons (SX_set (i := 13) rfl (SE_neg (SE_name (i := 13) rfl)))
  (SX_cons (SX_set (i := 14) rfl SE_int)
  SX_nil)))
  (SX_cons (SX_ret (SE_callR (n := 3) l_normalize (g_normalize hK) hK rfl hrk (SEs_cons (SE_name (i := 14) rfl) (SEs_cons (SE_name (i := 13) rfl) (SEs_cons (SE_name (i := 12) rfl) (SEs_cons (SE_bl (SE_name (i := 13) rfl) rfl rfl) (SEs_cons (SE_name (i := 2) rfl) (SEs_cons (SE_name (i := 3) rfl) SEs_nil))))))))
  SX_nil)))))))))))

def q_mpf_pow_int_15 (cx : Cx) : Tx := tSeq (tRet (tCall cx 4 80 (tCons (tName 10) (tCons (tName 13) (tCons (tName 14) (tCons (tName 15) (tCons (tName 2) (tCons (tName 3) tNil))))))))
  tSkip
def q_mpf_pow_int_14 (cx : Cx) : Tx := tSeq (tWhile (tTruth (tInt 1)) (tSeq (tIf (tTruth (tBin kAnd (tName 1) (tInt 1))) (tSeq (tSet 13 (tBin kMul (tName 13) (tName 5)))
  (tSeq (tSet 14 (tBin kAdd (tName 14) (tName 6)))
  (tSeq (tAug 15 kAdd (tBin kSub (tName 7) (tInt 2)))
  (tSeq (tSet 15 (tBin kAdd (tName 15) (tBl (tBin kShr (tName 13) (tName 15)))))
  (tSeq (tIf (tTest (tBin kGt (tName 15) (tName 12))) (tSeq (tIf (tTruth (tName 11)) (tSeq (tSet 13 (tBin kShr (tName 13) (tBin kSub (tName 15) (tName 12))))
  tSkip)
  (tSeq (tSet 13 (tNeg (tBin kShr (tNeg (tName 13)) (tBin kSub (tName 15) (tName 12)))))
  tSkip))
  (tSeq (tAug 14 kAdd (tBin kSub (tName 15) (tName 12)))
  (tSeq (tSet 15 (tName 12))
  tSkip)))
  tSkip)
  (tSeq (tAug 1 kSub (tInt 1))
  (tSeq (tIf (tNotT (tTruth (tName 1))) (tSeq tBrk
  tSkip)
  tSkip)
  tSkip)))))))
  tSkip)
  (tSeq (tSet 5 (tBin kMul (tName 5) (tName 5)))
  (tSeq (tSet 6 (tBin kAdd (tName 6) (tName 6)))
  (tSeq (tSet 7 (tBin kSub (tBin kAdd (tName 7) (tName 7)) (tInt 2)))
  (tSeq (tSet 7 (tBin kAdd (tName 7) (tBl (tBin kShr (tName 5) (tName 7)))))
  (tSeq (tIf (tTest (tBin kGt (tName 7) (tName 12))) (tSeq (tIf (tTruth (tName 11)) (tSeq (tSet 5 (tBin kShr (tName 5) (tBin kSub (tName 7) (tName 12))))
  tSkip)
  (tSeq (tSet 5 (tNeg (tBin kShr (tNeg (tName 5)) (tBin kSub (tName 7) (tName 12)))))
  tSkip))
  (tSeq (tAug 6 kAdd (tBin kSub (tName 7) (tName 12)))
  (tSeq (tSet 7 (tName 12))
  tSkip)))
  tSkip)
  (tSeq (tSet 1 (tBin kDiv (tName 1) (tInt 2)))
  tSkip))))))))
  (q_mpf_pow_int_15 cx)
theorem s_mpf_pow_int_14 {ρ σ P} (h : ∀ R : Tx, R = q_mpf_pow_int_15 cx → tSeq (tWhile (tTruth (tInt 1)) (tSeq (tIf (tTruth (tBin kAnd (tName 1) (tInt 1))) (tSeq (tSet 13 (tBin kMul (tName 13) (tName 5)))
  (tSeq (tSet 14 (tBin kAdd (tName 14) (tName 6)))
  (tSeq (tAug 15 kAdd (tBin kSub (tName 7) (tInt 2)))
  (tSeq (tSet 15 (tBin kAdd (tName 15) (tBl (tBin kShr (tName 13) (tName 15)))))
  (tSeq (tIf (tTest (tBin kGt (tName 15) (tName 12))) (tSeq (tIf (tTruth (tName 11)) (tSeq (tSet 13 (tBin kShr (tName 13) (tBin kSub (tName 15) (tName 12))))
  tSkip)
  (tSeq (tSet 13 (tNeg (tBin kShr (tNeg (tName 13)) (tBin kSub (tName 15) (tName 12)))))
  tSkip))
  (tSeq (tAug 14 kAdd (tBin kSub (tName 15) (tName 12)))
  (tSeq (tSet 15 (tName 12))
  tSkip)))
  tSkip)
  (tSeq (tAug 1 kSub (tInt 1))
  (tSeq (tIf (tNotT (tTruth (tName 1))) (tSeq tBrk
  tSkip)
  tSkip)
  tSkip)))))))
  tSkip)
  (tSeq (tSet 5 (tBin kMul (tName 5) (tName 5)))
  (tSeq (tSet 6 (tBin kAdd (tName 6) (tName 6)))
  (tSeq (tSet 7 (tBin kSub (tBin kAdd (tName 7) (tName 7)) (tInt 2)))
  (tSeq (tSet 7 (tBin kAdd (tName 7) (tBl (tBin kShr (tName 5) (tName 7)))))
  (tSeq (tIf (tTest (tBin kGt (tName 7) (tName 12))) (tSeq (tIf (tTruth (tName 11)) (tSeq (tSet 5 (tBin kShr (tName 5) (tBin kSub (tName 7) (tName 12))))
  tSkip)
  (tSeq (tSet 5 (tNeg (tBin kShr (tNeg (tName 5)) (tBin kSub (tName 7) (tName 12)))))
  tSkip))
  (tSeq (tAug 6 kAdd (tBin kSub (tName 7) (tName 12)))
  (tSeq (tSet 7 (tName 12))
  tSkip)))
  tSkip)
  (tSeq (tSet 1 (tBin kDiv (tName 1) (tInt 2)))
  tSkip)))))))) R ρ σ P) : q_mpf_pow_int_14 cx ρ σ P := h _ rfl
def q_mpf_pow_int_13 (cx : Cx) : Tx := tSeq (tUnpack [8, 13, 14, 15] (tGlob p_fone))
  (q_mpf_pow_int_14 cx)
theorem s_mpf_pow_int_13 {ρ σ P} (h : ∀ R : Tx, R = q_mpf_pow_int_14 cx → tSeq (tUnpack [8, 13, 14, 15] (tGlob p_fone)) R ρ σ P) : q_mpf_pow_int_13 cx ρ σ P := h _ rfl
def q_mpf_pow_int_12 (cx : Cx) : Tx := tSeq (tSet 12 (tBin kAdd (tBin kAdd (tName 2) (tBin kMul (tInt 4) (tBl (tName 1)))) (tInt 4)))
  (q_mpf_pow_int_13 cx)
theorem s_mpf_pow_int_12 {ρ σ P} (h : ∀ R : Tx, R = q_mpf_pow_int_13 cx → tSeq (tSet 12 (tBin kAdd (tBin kAdd (tName 2) (tBin kMul (tInt 4) (tBl (tName 1)))) (tInt 4))) R ρ σ P) : q_mpf_pow_int_12 cx ρ σ P := h _ rfl
def q_mpf_pow_int_11 (cx : Cx) : Tx := tSeq (tSet 11 (tOr (tBin kEq (tName 3) (tGlob (.str (Str.ofString "n")))) (tSub (tDict cx 62 (tName 3)) (tName 10))))
  (q_mpf_pow_int_12 cx)
theorem s_mpf_pow_int_11 {ρ σ P} (h : ∀ R : Tx, R = q_mpf_pow_int_12 cx → tSeq (tSet 11 (tOr (tBin kEq (tName 3) (tGlob (.str (Str.ofString "n")))) (tSub (tDict cx 62 (tName 3)) (tName 10)))) R ρ σ P) : q_mpf_pow_int_11 cx ρ σ P := h _ rfl
def q_mpf_pow_int_10 (cx : Cx) : Tx := tSeq (tIf (tTest (tBin kLt (tBin kMul (tName 7) (tName 1)) (tInt 1000))) (tSeq (tAug 5 kPow (tName 1))
  (tSeq (tRet (tCall cx 4 80 (tCons (tName 10) (tCons (tName 5) (tCons (tBin kMul (tName 6) (tName 1)) (tCons (tBl (tName 5)) (tCons (tName 2) (tCons (tName 3) tNil))))))))
  tSkip))
  tSkip)
  (q_mpf_pow_int_11 cx)
theorem s_mpf_pow_int_10 {ρ σ P} (h : ∀ R : Tx, R = q_mpf_pow_int_11 cx → tSeq (tIf (tTest (tBin kLt (tBin kMul (tName 7) (tName 1)) (tInt 1000))) (tSeq (tAug 5 kPow (tName 1))
  (tSeq (tRet (tCall cx 4 80 (tCons (tName 10) (tCons (tName 5) (tCons (tBin kMul (tName 6) (tName 1)) (tCons (tBl (tName 5)) (tCons (tName 2) (tCons (tName 3) tNil))))))))
  tSkip))
  tSkip) R ρ σ P) : q_mpf_pow_int_10 cx ρ σ P := h _ rfl
def q_mpf_pow_int_9 (cx : Cx) : Tx := tSeq (tIf (tTest (tBin kEq (tName 5) (tInt 1))) (tSeq (tRet (tTup (tCons (tName 10) (tCons (tGlob (.int 1)) (tCons (tBin kMul (tName 6) (tName 1)) (tCons (tInt 1) tNil))))))
  tSkip)
  tSkip)
  (q_mpf_pow_int_10 cx)
theorem s_mpf_pow_int_9 {ρ σ P} (h : ∀ R : Tx, R = q_mpf_pow_int_10 cx → tSeq (tIf (tTest (tBin kEq (tName 5) (tInt 1))) (tSeq (tRet (tTup (tCons (tName 10) (tCons (tGlob (.int 1)) (tCons (tBin kMul (tName 6) (tName 1)) (tCons (tInt 1) tNil))))))
  tSkip)
  tSkip) R ρ σ P) : q_mpf_pow_int_9 cx ρ σ P := h _ rfl
def q_mpf_pow_int_8 (cx : Cx) : Tx := tSeq (tSet 10 (tBin kAnd (tName 4) (tName 1)))
  (q_mpf_pow_int_9 cx)
theorem s_mpf_pow_int_8 {ρ σ P} (h : ∀ R : Tx, R = q_mpf_pow_int_9 cx → tSeq (tSet 10 (tBin kAnd (tName 4) (tName 1))) R ρ σ P) : q_mpf_pow_int_8 cx ρ σ P := h _ rfl
def q_mpf_pow_int_7 (cx : Cx) : Tx := tSeq (tIf (tTest (tBin kLt (tName 1) (tInt 0))) (tSeq (fun _ _ _ => False)
  (tSeq (tRet (tCall cx 4 284 (tCons (tGlob p_fone) (tCons (tName 9) (tCons (tName 2) (tCons (tName 3) tNil))))))
  tSkip))
  tSkip)
  (q_mpf_pow_int_8 cx)
theorem s_mpf_pow_int_7 {ρ σ P} (h : ∀ R : Tx, R = q_mpf_pow_int_8 cx → tSeq (tIf (tTest (tBin kLt (tName 1) (tInt 0))) (tSeq (fun _ _ _ => False)
  (tSeq (tRet (tCall cx 4 284 (tCons (tGlob p_fone) (tCons (tName 9) (tCons (tName 2) (tCons (tName 3) tNil))))))
  tSkip))
  tSkip) R ρ σ P) : q_mpf_pow_int_7 cx ρ σ P := h _ rfl
def q_mpf_pow_int_6 (cx : Cx) : Tx := tSeq (tIf (tTest (tBin kEq (tName 1) (tNeg (tInt 1)))) (tSeq (tRet (tCall cx 4 284 (tCons (tGlob p_fone) (tCons (tName 0) (tCons (tName 2) (tCons (tName 3) tNil))))))
  tSkip)
  tSkip)
  (q_mpf_pow_int_7 cx)
theorem s_mpf_pow_int_6 {ρ σ P} (h : ∀ R : Tx, R = q_mpf_pow_int_7 cx → tSeq (tIf (tTest (tBin kEq (tName 1) (tNeg (tInt 1)))) (tSeq (tRet (tCall cx 4 284 (tCons (tGlob p_fone) (tCons (tName 0) (tCons (tName 2) (tCons (tName 3) tNil))))))
  tSkip)
  tSkip) R ρ σ P) : q_mpf_pow_int_6 cx ρ σ P := h _ rfl
def q_mpf_pow_int_5 (cx : Cx) : Tx := tSeq (tIf (tTest (tBin kEq (tName 1) (tInt 2))) (tSeq (tUnpack [8, 5, 6, 7] (tName 0))
  (tSeq (tIf (tNotT (tTruth (tName 5))) (tSeq (tRet (tGlob p_fzero))
  tSkip)
  tSkip)
  (tSeq (tSet 5 (tBin kMul (tName 5) (tName 5)))
  (tSeq (tIf (tTest (tBin kEq (tName 5) (tInt 1))) (tSeq (tRet (tTup (tCons (tInt 0) (tCons (tGlob (.int 1)) (tCons (tBin kAdd (tName 6) (tName 6)) (tCons (tInt 1) tNil))))))
  tSkip)
  tSkip)
  (tSeq (tSet 7 (tBin kSub (tBin kAdd (tName 7) (tName 7)) (tInt 2)))
  (tSeq (tAug 7 kAdd (tBl (tBin kShr (tName 5) (tName 7))))
  (tSeq (tRet (tCall cx 4 80 (tCons (tInt 0) (tCons (tName 5) (tCons (tBin kAdd (tName 6) (tName 6)) (tCons (tName 7) (tCons (tName 2) (tCons (tName 3) tNil))))))))
  tSkip)))))))
  tSkip)
  (q_mpf_pow_int_6 cx)
theorem s_mpf_pow_int_5 {ρ σ P} (h : ∀ R : Tx, R = q_mpf_pow_int_6 cx → tSeq (tIf (tTest (tBin kEq (tName 1) (tInt 2))) (tSeq (tUnpack [8, 5, 6, 7] (tName 0))
  (tSeq (tIf (tNotT (tTruth (tName 5))) (tSeq (tRet (tGlob p_fzero))
  tSkip)
  tSkip)
  (tSeq (tSet 5 (tBin kMul (tName 5) (tName 5)))
  (tSeq (tIf (tTest (tBin kEq (tName 5) (tInt 1))) (tSeq (tRet (tTup (tCons (tInt 0) (tCons (tGlob (.int 1)) (tCons (tBin kAdd (tName 6) (tName 6)) (tCons (tInt 1) tNil))))))
  tSkip)
  tSkip)
  (tSeq (tSet 7 (tBin kSub (tBin kAdd (tName 7) (tName 7)) (tInt 2)))
  (tSeq (tAug 7 kAdd (tBl (tBin kShr (tName 5) (tName 7))))
  (tSeq (tRet (tCall cx 4 80 (tCons (tInt 0) (tCons (tName 5) (tCons (tBin kAdd (tName 6) (tName 6)) (tCons (tName 7) (tCons (tName 2) (tCons (tName 3) tNil))))))))
  tSkip)))))))
  tSkip) R ρ σ P) : q_mpf_pow_int_5 cx ρ σ P := h _ rfl
def q_mpf_pow_int_4 (cx : Cx) : Tx := tSeq (tIf (tTest (tBin kEq (tName 1) (tInt 1))) (tSeq (tRet (tCall cx 4 199 (tCons (tName 0) (tCons (tName 2) (tCons (tName 3) tNil)))))
  tSkip)
  tSkip)
  (q_mpf_pow_int_5 cx)
theorem s_mpf_pow_int_4 {ρ σ P} (h : ∀ R : Tx, R = q_mpf_pow_int_5 cx → tSeq (tIf (tTest (tBin kEq (tName 1) (tInt 1))) (tSeq (tRet (tCall cx 4 199 (tCons (tName 0) (tCons (tName 2) (tCons (tName 3) tNil)))))
  tSkip)
  tSkip) R ρ σ P) : q_mpf_pow_int_4 cx ρ σ P := h _ rfl
def q_mpf_pow_int_3 (cx : Cx) : Tx := tSeq (tIf (tTest (tBin kEq (tName 1) (tInt 0))) (tSeq (tRet (tGlob p_fone))
  tSkip)
  tSkip)
  (q_mpf_pow_int_4 cx)
theorem s_mpf_pow_int_3 {ρ σ P} (h : ∀ R : Tx, R = q_mpf_pow_int_4 cx → tSeq (tIf (tTest (tBin kEq (tName 1) (tInt 0))) (tSeq (tRet (tGlob p_fone))
  tSkip)
  tSkip) R ρ σ P) : q_mpf_pow_int_3 cx ρ σ P := h _ rfl
def q_mpf_pow_int_2 (cx : Cx) : Tx := tSeq (tSet 1 (tB kInt (tCons (tName 1) tNil)))
  (q_mpf_pow_int_3 cx)
theorem s_mpf_pow_int_2 {ρ σ P} (h : ∀ R : Tx, R = q_mpf_pow_int_3 cx → tSeq (tSet 1 (tB kInt (tCons (tName 1) tNil))) R ρ σ P) : q_mpf_pow_int_2 cx ρ σ P := h _ rfl
def q_mpf_pow_int_1 (cx : Cx) : Tx := tSeq (tIf (tAndT (tNotT (tTruth (tName 5))) (tAndT (tTruth (tName 6)) tTrue)) (tSeq (tIf (tTest (tBin kEq (tName 0) (tGlob p_finf))) (tSeq (tIf (tTest (tBin kGt (tName 1) (tInt 0))) (tSeq (tRet (tName 0))
  tSkip)
  tSkip)
  (tSeq (tIf (tTest (tBin kEq (tName 1) (tInt 0))) (tSeq (tRet (tGlob p_fone))
  tSkip)
  tSkip)
  (tSeq (tRet (tGlob p_fzero))
  tSkip)))
  tSkip)
  (tSeq (tIf (tTest (tBin kEq (tName 0) (tGlob p_fninf))) (tSeq (tIf (tTest (tBin kGt (tName 1) (tInt 0))) (tSeq (tRet (tSub (tList (tCons (tGlob p_finf) (tCons (tGlob p_fninf) tNil))) (tBin kAnd (tName 1) (tInt 1))))
  tSkip)
  tSkip)
  (tSeq (tIf (tTest (tBin kEq (tName 1) (tInt 0))) (tSeq (tRet (tGlob p_fone))
  tSkip)
  tSkip)
  (tSeq (tRet (tGlob p_fzero))
  tSkip)))
  tSkip)
  (tSeq (tIf (tTest (tBin kEq (tName 1) (tInt 0))) (tSeq (tRet (tGlob p_fone))
  tSkip)
  tSkip)
  (tSeq (tRet (tGlob p_fnan))
  tSkip))))
  tSkip)
  (q_mpf_pow_int_2 cx)
theorem s_mpf_pow_int_1 {ρ σ P} (h : ∀ R : Tx, R = q_mpf_pow_int_2 cx → tSeq (tIf (tAndT (tNotT (tTruth (tName 5))) (tAndT (tTruth (tName 6)) tTrue)) (tSeq (tIf (tTest (tBin kEq (tName 0) (tGlob p_finf))) (tSeq (tIf (tTest (tBin kGt (tName 1) (tInt 0))) (tSeq (tRet (tName 0))
  tSkip)
  tSkip)
  (tSeq (tIf (tTest (tBin kEq (tName 1) (tInt 0))) (tSeq (tRet (tGlob p_fone))
  tSkip)
  tSkip)
  (tSeq (tRet (tGlob p_fzero))
  tSkip)))
  tSkip)
  (tSeq (tIf (tTest (tBin kEq (tName 0) (tGlob p_fninf))) (tSeq (tIf (tTest (tBin kGt (tName 1) (tInt 0))) (tSeq (tRet (tSub (tList (tCons (tGlob p_finf) (tCons (tGlob p_fninf) tNil))) (tBin kAnd (tName 1) (tInt 1))))
  tSkip)
  tSkip)
  (tSeq (tIf (tTest (tBin kEq (tName 1) (tInt 0))) (tSeq (tRet (tGlob p_fone))
  tSkip)
  tSkip)
  (tSeq (tRet (tGlob p_fzero))
  tSkip)))
  tSkip)
  (tSeq (tIf (tTest (tBin kEq (tName 1) (tInt 0))) (tSeq (tRet (tGlob p_fone))
  tSkip)
  tSkip)
  (tSeq (tRet (tGlob p_fnan))
  tSkip))))
  tSkip) R ρ σ P) : q_mpf_pow_int_1 cx ρ σ P := h _ rfl
def q_mpf_pow_int (cx : Cx) : Tx := tSeq (tUnpack [4, 5, 6, 7] (tName 0))
  (q_mpf_pow_int_1 cx)
theorem s_mpf_pow_int {ρ σ P} (h : ∀ R : Tx, R = q_mpf_pow_int_1 cx → tSeq (tUnpack [4, 5, 6, 7] (tName 0)) R ρ σ P) : q_mpf_pow_int cx ρ σ P := h _ rfl
abbrev ns_mpf_pow_int : List Str := [Str.ofString "s", Str.ofString "n", Str.ofString "prec", Str.ofString "rnd", Str.ofString "sign", Str.ofString "man", Str.ofString "exp", Str.ofString "bc", Str.ofString "_", Str.ofString "inverse", Str.ofString "result_sign", Str.ofString "rounds_down", Str.ofString "workprec", Str.ofString "pm", Str.ofString "pe", Str.ofString "pbc"]
theorem w_mpf_pow_int4 (hK : KK cx) {args : List PyData} {out : Except Exn PyData} (hl : args.length = 4) (hvc : q_mpf_pow_int cx (valSlots (args ++ []) 12) [] (callPost out)) : CallOK cx 309 4 args out := by
  refine call_ok (n := 12) (dfl := []) (tx := q_mpf_pow_int cx) [Str.ofString "s", Str.ofString "n", Str.ofString "prec", Str.ofString "rnd"] ns_mpf_pow_int [] hK rfl (by kernel_rfl) (fun us s hu hk => ?_) (fun _ _ _ _ => Rds.nil) (by rw [List.length_append, hl]; rfl) (fun i x h => ?_) (by decide +kernel) (by decide +kernel) rfl rfl rfl (by decide) (fun fc hcs hrk => ?_) hvc
  · rw [hl] at hu
    obtain ⟨u0, u1, u2, u3, rfl⟩ := len_4 hu
    exact binds_K (K := hd.heap_39 cx.w.params) (hK ▸ hk) rfl rfl rfl rfl rfl
  · exact nth_sub (by decide +kernel) h
  · have l_fnan : fc.cs.names.lookup (Str.ofString "fnan") = some .globalImplicit := by rw [hcs]; rfl
    have l_fone : fc.cs.names.lookup (Str.ofString "fone") = some .globalImplicit := by rw [hcs]; rfl
    have l_fninf : fc.cs.names.lookup (Str.ofString "fninf") = some .globalImplicit := by rw [hcs]; rfl
    have l_fzero : fc.cs.names.lookup (Str.ofString "fzero") = some .globalImplicit := by rw [hcs]; rfl
    have l_finf : fc.cs.names.lookup (Str.ofString "finf") = some .globalImplicit := by rw [hcs]; rfl
    have l_int : fc.cs.names.lookup (Str.ofString "int") = some .globalImplicit := by rw [hcs]; rfl
    have l_mpf_pos : fc.cs.names.lookup (Str.ofString "mpf_pos") = some .globalImplicit := by rw [hcs]; rfl
    have l_normalize : fc.cs.names.lookup (Str.ofString "normalize") = some .globalImplicit := by rw [hcs]; rfl
    have l_MPZ_ONE : fc.cs.names.lookup (Str.ofString "MPZ_ONE") = some .globalImplicit := by rw [hcs]; rfl
    have l_mpf_div : fc.cs.names.lookup (Str.ofString "mpf_div") = some .globalImplicit := by rw [hcs]; rfl
    have l_round_nearest : fc.cs.names.lookup (Str.ofString "round_nearest") = some .globalImplicit := by rw [hcs]; rfl
    have l_shifts_down : fc.cs.names.lookup (Str.ofString "shifts_down") = some .globalImplicit := by rw [hcs]; rfl
    exact (SX_cons (SX_unpack (xs := [Str.ofString "sign", Str.ofString "man", Str.ofString "exp", Str.ofString "bc"]) (SE_name (i := 0) rfl) rfl (NameElts.cons (NameElts.cons (NameElts.cons (NameElts.cons NameElts.nil)))) rfl rfl)
  (SX_cons (SX_if (ST_bool (STs_and_cons (ST_not (ST_val (SE_name (i := 5) rfl))) (STs_and_cons (ST_val (SE_name (i := 6) rfl)) STs_and_nil))) (SX_cons (SX_if (ST_cmp c_eq (SE_name (i := 0) rfl) (SE_glob l_finf (g_finf hK) (r_finf hK)) rfl) (SX_cons (SX_if (ST_cmp c_gt (SE_name (i := 1) rfl) SE_int rfl) (SX_cons (SX_ret (SE_name (i := 0) rfl))
  SX_nil)
  SX_nil)
  (SX_cons (SX_if (ST_cmp c_eq (SE_name (i := 1) rfl) SE_int rfl) (SX_cons (SX_ret (SE_glob l_fone (g_fone hK) (r_fone hK)))
  SX_nil)
  SX_nil)
  (SX_cons (SX_ret (SE_glob l_fzero (g_fzero hK) (r_fzero hK)))
  SX_nil)))
  SX_nil)
  (SX_cons (SX_if (ST_cmp c_eq (SE_name (i := 0) rfl) (SE_glob l_fninf (g_fninf hK) (r_fninf hK)) rfl) (SX_cons (SX_if (ST_cmp c_gt (SE_name (i := 1) rfl) SE_int rfl) (SX_cons (SX_ret (SE_sub (SE_list (SEs_cons (SE_glob l_finf (g_finf hK) (r_finf hK)) (SEs_cons (SE_glob l_fninf (g_fninf hK) (r_fninf hK)) SEs_nil))) (SE_bin b_and (SE_name (i := 1) rfl) SE_int) (fun _ _ => rfl)))
  SX_nil)
  SX_nil)
  (SX_cons (SX_if (ST_cmp c_eq (SE_name (i := 1) rfl) SE_int rfl) (SX_cons (SX_ret (SE_glob l_fone (g_fone hK) (r_fone hK)))
  SX_nil)
  SX_nil)
  (SX_cons (SX_ret (SE_glob l_fzero (g_fzero hK) (r_fzero hK)))
  SX_nil)))
  SX_nil)
  (SX_cons (SX_if (ST_cmp c_eq (SE_name (i := 1) rfl) SE_int rfl) (SX_cons (SX_ret (SE_glob l_fone (g_fone hK) (r_fone hK)))
  SX_nil)
  SX_nil)
  (SX_cons (SX_ret (SE_glob l_fnan (g_fnan hK) (r_fnan hK)))
  SX_nil))))
  SX_nil)
  (SX_cons (SX_set (i := 1) rfl (SE_tcall l_int (n_int hK) Boot.«int» bc_int (SEs_cons (SE_name (i := 1) rfl) SEs_nil)))
  (SX_cons (SX_if (ST_cmp c_eq (SE_name (i := 1) rfl) SE_int rfl) (SX_cons (SX_ret (SE_glob l_fone (g_fone hK) (r_fone hK)))
  SX_nil)
  SX_nil)
  (SX_cons (SX_if (ST_cmp c_eq (SE_name (i := 1) rfl) SE_int rfl) (SX_cons (SX_ret (SE_callR (n := 4) l_mpf_pos (g_mpf_pos hK) hK rfl hrk (SEs_cons (SE_name (i := 0) rfl) (SEs_cons (SE_name (i := 2) rfl) (SEs_cons (SE_name (i := 3) rfl) SEs_nil)))))
  SX_nil)
  SX_nil)
  (SX_cons (SX_if (ST_cmp c_eq (SE_name (i := 1) rfl) SE_int rfl) (SX_cons (SX_unpack (xs := [Str.ofString "_", Str.ofString "man", Str.ofString "exp", Str.ofString "bc"]) (SE_name (i := 0) rfl) rfl (NameElts.cons (NameElts.cons (NameElts.cons (NameElts.cons NameElts.nil)))) rfl rfl)
  (SX_cons (SX_if (ST_not (ST_val (SE_name (i := 5) rfl))) (SX_cons (SX_ret (SE_glob l_fzero (g_fzero hK) (r_fzero hK)))
  SX_nil)
  SX_nil)
  (SX_cons (SX_set (i := 5) rfl (SE_bin b_mul (SE_name (i := 5) rfl) (SE_name (i := 5) rfl)))
  (SX_cons (SX_if (ST_cmp c_eq (SE_name (i := 5) rfl) SE_int rfl) (SX_cons (SX_ret (SE_tup (SEs_cons SE_int (SEs_cons (SE_glob l_MPZ_ONE (g_MPZ_ONE hK) (fun _ _ _ _ => .int _ _)) (SEs_cons (SE_bin b_add (SE_name (i := 6) rfl) (SE_name (i := 6) rfl)) (SEs_cons SE_int SEs_nil))))))
  SX_nil)
  SX_nil)
  (SX_cons (SX_set (i := 7) rfl (SE_bin b_sub (SE_bin b_add (SE_name (i := 7) rfl) (SE_name (i := 7) rfl)) SE_int))
  (SX_cons (SX_aug (i := 7) rfl i_add (SE_bl (SE_bin b_shr (SE_name (i := 5) rfl) (SE_name (i := 7) rfl)) rfl rfl))
  (SX_cons (SX_ret (SE_callR (n := 4) l_normalize (g_normalize hK) hK rfl hrk (SEs_cons SE_int (SEs_cons (SE_name (i := 5) rfl) (SEs_cons (SE_bin b_add (SE_name (i := 6) rfl) (SE_name (i := 6) rfl)) (SEs_cons (SE_name (i := 7) rfl) (SEs_cons (SE_name (i := 2) rfl) (SEs_cons (SE_name (i := 3) rfl) SEs_nil))))))))
  SX_nil)))))))
  SX_nil)
  (SX_cons (SX_if (ST_cmp c_eq (SE_name (i := 1) rfl) (SE_neg SE_int) rfl) (SX_cons (SX_ret (SE_callR (n := 4) l_mpf_div (g_mpf_div hK) hK rfl hrk (SEs_cons (SE_glob l_fone (g_fone hK) (r_fone hK)) (SEs_cons (SE_name (i := 0) rfl) (SEs_cons (SE_name (i := 2) rfl) (SEs_cons (SE_name (i := 3) rfl) SEs_nil))))))
  SX_nil)
  SX_nil)
  (SX_cons (SX_if (ST_cmp c_lt (SE_name (i := 1) rfl) SE_int rfl) (SX_cons SX1_false
  (SX_cons (SX_ret (SE_callR (n := 4) l_mpf_div (g_mpf_div hK) hK rfl hrk (SEs_cons (SE_glob l_fone (g_fone hK) (r_fone hK)) (SEs_cons (SE_name (i := 9) rfl) (SEs_cons (SE_name (i := 2) rfl) (SEs_cons (SE_name (i := 3) rfl) SEs_nil))))))
  SX_nil))
  SX_nil)
  (SX_cons (SX_set (i := 10) rfl (SE_bin b_and (SE_name (i := 4) rfl) (SE_name (i := 1) rfl)))
  (SX_cons (SX_if (ST_cmp c_eq (SE_name (i := 5) rfl) SE_int rfl) (SX_cons (SX_ret (SE_tup (SEs_cons (SE_name (i := 10) rfl) (SEs_cons (SE_glob l_MPZ_ONE (g_MPZ_ONE hK) (fun _ _ _ _ => .int _ _)) (SEs_cons (SE_bin b_mul (SE_name (i := 6) rfl) (SE_name (i := 1) rfl)) (SEs_cons SE_int SEs_nil))))))
  SX_nil)
  SX_nil)
  (SX_cons (SX_if (ST_cmp c_lt (SE_bin b_mul (SE_name (i := 7) rfl) (SE_name (i := 1) rfl)) SE_int rfl) (SX_cons (SX_aug (i := 5) rfl i_pow (SE_name (i := 1) rfl))
  (SX_cons (SX_ret (SE_callR (n := 4) l_normalize (g_normalize hK) hK rfl hrk (SEs_cons (SE_name (i := 10) rfl) (SEs_cons (SE_name (i := 5) rfl) (SEs_cons (SE_bin b_mul (SE_name (i := 6) rfl) (SE_name (i := 1) rfl)) (SEs_cons (SE_bl (SE_name (i := 5) rfl) rfl rfl) (SEs_cons (SE_name (i := 2) rfl) (SEs_cons (SE_name (i := 3) rfl) SEs_nil))))))))
  SX_nil))
  SX_nil)
  (SX_cons (SX_set (i := 11) rfl (SE_or (SE_cmp c_eq (SE_name (i := 3) rfl) (SE_glob l_round_nearest (g_round_nearest hK) (fun _ _ _ _ => .str _ _)) rfl) (SE_one (SE_sub (SE_shifts hK l_shifts_down (SE_name (i := 3) rfl) (fun _ _ => rfl)) (SE_name (i := 10) rfl) (fun _ _ => rfl)))))
  (SX_cons (SX_set (i := 12) rfl (SE_bin b_add (SE_bin b_add (SE_name (i := 2) rfl) (SE_bin b_mul SE_int (SE_bl (SE_name (i := 1) rfl) rfl rfl))) SE_int))
  (SX_cons (SX_unpack (xs := [Str.ofString "_", Str.ofString "pm", Str.ofString "pe", Str.ofString "pbc"]) (SE_glob l_fone (g_fone hK) (r_fone hK)) rfl (NameElts.cons (NameElts.cons (NameElts.cons (NameElts.cons NameElts.nil)))) rfl rfl)
  (SX_cons (SX_while (ST_val SE_int) (SX_cons (SX_if (ST_val (SE_bin b_and (SE_name (i := 1) rfl) SE_int)) (SX_cons (SX_set (i := 13) rfl (SE_bin b_mul (SE_name (i := 13) rfl) (SE_name (i := 5) rfl)))
  (SX_cons (SX_set (i := 14) rfl (SE_bin b_add (SE_name (i := 14) rfl) (SE_name (i := 6) rfl)))
  (SX_cons (SX_aug (i := 15) rfl i_add (SE_bin b_sub (SE_name (i := 7) rfl) SE_int))
  (SX_cons (SX_set (i := 15) rfl (SE_bin b_add (SE_name (i := 15) rfl) (SE_bl (SE_bin b_shr (SE_name (i := 13) rfl) (SE_name (i := 15) rfl)) rfl rfl)))
  (SX_cons (SX_if (ST_cmp c_gt (SE_name (i := 15) rfl) (SE_name (i := 12) rfl) rfl) (SX_cons (SX_if (ST_val (SE_name (i := 11) rfl)) (SX_cons (SX_set (i := 13) rfl (SE_bin b_shr (SE_name (i := 13) rfl) (SE_bin b_sub (SE_name (i := 15) rfl) (SE_name (i := 12) rfl))))
  SX_nil)
  (SX_cons (SX_set (i := 13) rfl (SE_neg (SE_bin b_shr (SE_neg (SE_name (i := 13) rfl)) (SE_bin b_sub (SE_name (i := 15) rfl) (SE_name (i := 12) rfl)))))
  SX_nil))
  (SX_cons (SX_aug (i := 14) rfl i_add (SE_bin b_sub (SE_name (i := 15) rfl) (SE_name (i := 12) rfl)))
  (SX_cons (SX_set (i := 15) rfl (SE_name (i := 12) rfl))
  SX_nil)))
  SX_nil)
  (SX_cons (SX_aug (i := 1) rfl i_sub SE_int)
  (SX_cons (SX_if (ST_not (ST_val (SE_name (i := 1) rfl))) (SX_cons SX_brk
  SX_nil)
  SX_nil)
  SX_nil)))))))
  SX_nil)
  (SX_cons (SX_set (i := 5) rfl (SE_bin b_mul (SE_name (i := 5) rfl) (SE_name (i := 5) rfl)))
  (SX_cons (SX_set (i := 6) rfl (SE_bin b_add (SE_name (i := 6) rfl) (SE_name (i := 6) rfl)))
  (SX_cons (SX_set (i := 7) rfl (SE_bin b_sub (SE_bin b_add (SE_name (i := 7) rfl) (SE_name (i := 7) rfl)) SE_int))
  (SX_cons (SX_set (i := 7) rfl (SE_bin b_add (SE_name (i := 7) rfl) (SE_bl (SE_bin b_shr (SE_name (i := 5) rfl) (SE_name (i := 7) rfl)) rfl rfl)))
  (SX_cons (SX_if (ST_cmp c_gt (SE_name (i := 7) rfl) (SE_name (i := 12) rfl) rfl) (SX_cons (SX_if (ST_val (SE_name (i := 11) rfl)) (SX_cons (SX_set (i := 5) rfl (SE_bin b_shr (SE_name (i := 5) rfl) (SE_bin b_sub (SE_name (i := 7) rfl) (SE_name (i := 12) rfl))))
  SX_nil)
  (SX_cons (SX_set (i := 5) rfl (SE_neg (SE_bin b_shr (SE_neg (SE_name (i := 5) rfl)) (SE_bin b_sub (SE_name (i := 7) rfl) (SE_name (i := 12) rfl)))))
  SX_nil))
  (SX_cons (SX_aug (i := 6) rfl i_add (SE_bin b_sub (SE_name (i := 7) rfl) (SE_name (i := 12) rfl)))
  (SX_cons (SX_set (i := 7) rfl (SE_name (i := 12) rfl))
  SX_nil)))
  SX_nil)
  (SX_cons (SX_set (i := 1) rfl (SE_bin b_div (SE_name (i := 1) rfl) SE_int))
  SX_nil))))))))
  (SX_cons (SX_ret (SE_callR (n := 4) l_normalize (g_normalize hK) hK rfl hrk (SEs_cons (SE_name (i := 10) rfl) (SEs_cons (SE_name (i := 13) rfl) (SEs_cons (SE_name (i := 14) rfl) (SEs_cons (SE_name (i := 15) rfl) (SEs_cons (SE_name (i := 2) rfl) (SEs_cons (SE_name (i := 3) rfl) SEs_nil))))))))
  SX_nil))))))))))))))))

def q_mpf_sqrt_7 (cx : Cx) : Tx := tSeq (tRet (tCall cx 4 88 (tCons (tName 4) (tCons (tBin kDiv (tBin kSub (tName 5) (tName 7)) (tInt 2)) (tCons (tName 1) (tCons (tName 2) tNil))))))
  tSkip
def q_mpf_sqrt_6 (cx : Cx) : Tx := tSeq (tIf (tTest (tBin kInStr (tName 2) (tStr (Str.ofString "fd")))) (tSeq (tSet 4 (tCall cx 4 42 (tCons (tBin kShl (tName 4) (tName 7)) tNil)))
  tSkip)
  (tSeq (tUnpack [4, 8] (tCall cx 4 35 (tCons (tBin kShl (tName 4) (tName 7)) tNil)))
  (tSeq (tIf (tTruth (tName 8)) (tSeq (tSet 4 (tBin kAdd (tBin kShl (tName 4) (tInt 1)) (tInt 1)))
  (tSeq (tAug 7 kAdd (tInt 2))
  tSkip))
  tSkip)
  tSkip)))
  (q_mpf_sqrt_7 cx)
theorem s_mpf_sqrt_6 {ρ σ P} (h : ∀ R : Tx, R = q_mpf_sqrt_7 cx → tSeq (tIf (tTest (tBin kInStr (tName 2) (tStr (Str.ofString "fd")))) (tSeq (tSet 4 (tCall cx 4 42 (tCons (tBin kShl (tName 4) (tName 7)) tNil)))
  tSkip)
  (tSeq (tUnpack [4, 8] (tCall cx 4 35 (tCons (tBin kShl (tName 4) (tName 7)) tNil)))
  (tSeq (tIf (tTruth (tName 8)) (tSeq (tSet 4 (tBin kAdd (tBin kShl (tName 4) (tInt 1)) (tInt 1)))
  (tSeq (tAug 7 kAdd (tInt 2))
  tSkip))
  tSkip)
  tSkip))) R ρ σ P) : q_mpf_sqrt_6 cx ρ σ P := h _ rfl
def q_mpf_sqrt_5 (cx : Cx) : Tx := tSeq (tAug 7 kAdd (tBin kAnd (tName 7) (tInt 1)))
  (q_mpf_sqrt_6 cx)
theorem s_mpf_sqrt_5 {ρ σ P} (h : ∀ R : Tx, R = q_mpf_sqrt_6 cx → tSeq (tAug 7 kAdd (tBin kAnd (tName 7) (tInt 1))) R ρ σ P) : q_mpf_sqrt_5 cx ρ σ P := h _ rfl
def q_mpf_sqrt_4 (cx : Cx) : Tx := tSeq (tSet 7 (tB kMax (tCons (tInt 4) (tCons (tBin kAdd (tBin kSub (tBin kMul (tInt 2) (tName 1)) (tName 6)) (tInt 4)) tNil))))
  (q_mpf_sqrt_5 cx)
theorem s_mpf_sqrt_4 {ρ σ P} (h : ∀ R : Tx, R = q_mpf_sqrt_5 cx → tSeq (tSet 7 (tB kMax (tCons (tInt 4) (tCons (tBin kAdd (tBin kSub (tBin kMul (tInt 2) (tName 1)) (tName 6)) (tInt 4)) tNil)))) R ρ σ P) : q_mpf_sqrt_4 cx ρ σ P := h _ rfl
def q_mpf_sqrt_3 (cx : Cx) : Tx := tSeq (tIf (tTruth (tBin kAnd (tName 5) (tInt 1))) (tSeq (tAug 5 kSub (tInt 1))
  (tSeq (tAug 4 kShl (tInt 1))
  (tSeq (tAug 6 kAdd (tInt 1))
  tSkip)))
  (tSeq (tIf (tTest (tBin kEq (tName 4) (tInt 1))) (tSeq (tRet (tCall cx 4 80 (tCons (tName 3) (tCons (tName 4) (tCons (tBin kDiv (tName 5) (tInt 2)) (tCons (tName 6) (tCons (tName 1) (tCons (tName 2) tNil))))))))
  tSkip)
  tSkip)
  tSkip))
  (q_mpf_sqrt_4 cx)
theorem s_mpf_sqrt_3 {ρ σ P} (h : ∀ R : Tx, R = q_mpf_sqrt_4 cx → tSeq (tIf (tTruth (tBin kAnd (tName 5) (tInt 1))) (tSeq (tAug 5 kSub (tInt 1))
  (tSeq (tAug 4 kShl (tInt 1))
  (tSeq (tAug 6 kAdd (tInt 1))
  tSkip)))
  (tSeq (tIf (tTest (tBin kEq (tName 4) (tInt 1))) (tSeq (tRet (tCall cx 4 80 (tCons (tName 3) (tCons (tName 4) (tCons (tBin kDiv (tName 5) (tInt 2)) (tCons (tName 6) (tCons (tName 1) (tCons (tName 2) tNil))))))))
  tSkip)
  tSkip)
  tSkip)) R ρ σ P) : q_mpf_sqrt_3 cx ρ σ P := h _ rfl
def q_mpf_sqrt_2 (cx : Cx) : Tx := tSeq (tIf (tNotT (tTruth (tName 4))) (tSeq (tRet (tName 0))
  tSkip)
  tSkip)
  (q_mpf_sqrt_3 cx)
theorem s_mpf_sqrt_2 {ρ σ P} (h : ∀ R : Tx, R = q_mpf_sqrt_3 cx → tSeq (tIf (tNotT (tTruth (tName 4))) (tSeq (tRet (tName 0))
  tSkip)
  tSkip) R ρ σ P) : q_mpf_sqrt_2 cx ρ σ P := h _ rfl
def q_mpf_sqrt_1 (cx : Cx) : Tx := tSeq (tIf (tTruth (tName 3)) (tSeq (tRaise .cplx)
  tSkip)
  tSkip)
  (q_mpf_sqrt_2 cx)
theorem s_mpf_sqrt_1 {ρ σ P} (h : ∀ R : Tx, R = q_mpf_sqrt_2 cx → tSeq (tIf (tTruth (tName 3)) (tSeq (tRaise .cplx)
  tSkip)
  tSkip) R ρ σ P) : q_mpf_sqrt_1 cx ρ σ P := h _ rfl
def q_mpf_sqrt (cx : Cx) : Tx := tSeq (tUnpack [3, 4, 5, 6] (tName 0))
  (q_mpf_sqrt_1 cx)
theorem s_mpf_sqrt {ρ σ P} (h : ∀ R : Tx, R = q_mpf_sqrt_1 cx → tSeq (tUnpack [3, 4, 5, 6] (tName 0)) R ρ σ P) : q_mpf_sqrt cx ρ σ P := h _ rfl
abbrev ns_mpf_sqrt : List Str := [Str.ofString "s", Str.ofString "prec", Str.ofString "rnd", Str.ofString "sign", Str.ofString "man", Str.ofString "exp", Str.ofString "bc", Str.ofString "shift", Str.ofString "rem"]
theorem w_mpf_sqrt3 (hK : KK cx) {args : List PyData} {out : Except Exn PyData} (hl : args.length = 3) (hvc : q_mpf_sqrt cx (valSlots (args ++ []) 6) [] (callPost out)) : CallOK cx 317 4 args out := by
  refine call_ok (n := 6) (dfl := []) (tx := q_mpf_sqrt cx) [Str.ofString "s", Str.ofString "prec", Str.ofString "rnd"] ns_mpf_sqrt [] hK rfl (by kernel_rfl) (fun us s hu hk => ?_) (fun _ _ _ _ => Rds.nil) (by rw [List.length_append, hl]; rfl) (fun i x h => ?_) (by decide +kernel) (by decide +kernel) rfl rfl rfl (by decide) (fun fc hcs hrk => ?_) hvc
  · rw [hl] at hu
    obtain ⟨u0, u1, u2, rfl⟩ := len_3 hu
    exact binds_K (K := hd.heap_39 cx.w.params) (hK ▸ hk) rfl rfl rfl rfl rfl
  · exact nth_sub (by decide +kernel) h
  · have l_ComplexResult : fc.cs.names.lookup (Str.ofString "ComplexResult") = some .globalImplicit := by rw [hcs]; rfl
    have l_normalize : fc.cs.names.lookup (Str.ofString "normalize") = some .globalImplicit := by rw [hcs]; rfl
    have l_max : fc.cs.names.lookup (Str.ofString "max") = some .globalImplicit := by rw [hcs]; rfl
    have l_isqrt : fc.cs.names.lookup (Str.ofString "isqrt") = some .globalImplicit := by rw [hcs]; rfl
    have l_sqrtrem : fc.cs.names.lookup (Str.ofString "sqrtrem") = some .globalImplicit := by rw [hcs]; rfl
    have l_from_man_exp : fc.cs.names.lookup (Str.ofString "from_man_exp") = some .globalImplicit := by rw [hcs]; rfl
    exact (SX_cons (SX_unpack (xs := [Str.ofString "sign", Str.ofString "man", Str.ofString "exp", Str.ofString "bc"]) (SE_name (i := 0) rfl) rfl (NameElts.cons (NameElts.cons (NameElts.cons (NameElts.cons NameElts.nil)))) rfl rfl)
  (SX_cons (SX_if (ST_val (SE_name (i := 3) rfl)) (SX_cons (SX_cplx l_ComplexResult (g_ComplexResult hK) (exc_cplx hK))
  SX_nil)
  SX_nil)
  (SX_cons (SX_if (ST_not (ST_val (SE_name (i := 4) rfl))) (SX_cons (SX_ret (SE_name (i := 0) rfl))
  SX_nil)
  SX_nil)
  (SX_cons (SX_if (ST_val (SE_bin b_and (SE_name (i := 5) rfl) SE_int)) (SX_cons (SX_aug (i := 5) rfl i_sub SE_int)
  (SX_cons (SX_aug (i := 4) rfl i_shl SE_int)
  (SX_cons (SX_aug (i := 6) rfl i_add SE_int)
  SX_nil)))
  (SX_cons (SX_if (ST_cmp c_eq (SE_name (i := 4) rfl) SE_int rfl) (SX_cons (SX_ret (SE_callR (n := 4) l_normalize (g_normalize hK) hK rfl hrk (SEs_cons (SE_name (i := 3) rfl) (SEs_cons (SE_name (i := 4) rfl) (SEs_cons (SE_bin b_div (SE_name (i := 5) rfl) SE_int) (SEs_cons (SE_name (i := 6) rfl) (SEs_cons (SE_name (i := 1) rfl) (SEs_cons (SE_name (i := 2) rfl) SEs_nil))))))))
  SX_nil)
  SX_nil)
  SX_nil))
  (SX_cons (SX_set (i := 7) rfl (SE_bcall l_max (n_max hK) Boot.«max» bc_max (SEs_cons SE_int (SEs_cons (SE_bin b_add (SE_bin b_sub (SE_bin b_mul SE_int (SE_name (i := 1) rfl)) (SE_name (i := 6) rfl)) SE_int) SEs_nil))))
  (SX_cons (SX_aug (i := 7) rfl i_add (SE_bin b_and (SE_name (i := 7) rfl) SE_int))
  (SX_cons (SX_if (ST_cmp c_in_str (SE_name (i := 2) rfl) SE_str rfl) (SX_cons (SX_set (i := 4) rfl (SE_callR (n := 4) l_isqrt (g_isqrt hK) hK rfl hrk (SEs_cons (SE_bin b_shl (SE_name (i := 4) rfl) (SE_name (i := 7) rfl)) SEs_nil)))
  SX_nil)
  (SX_cons (SX_unpack (xs := [Str.ofString "man", Str.ofString "rem"]) (SE_callR (n := 4) l_sqrtrem (g_sqrtrem hK) hK rfl hrk (SEs_cons (SE_bin b_shl (SE_name (i := 4) rfl) (SE_name (i := 7) rfl)) SEs_nil)) rfl (NameElts.cons (NameElts.cons NameElts.nil)) rfl rfl)
  (SX_cons (SX_if (ST_val (SE_name (i := 8) rfl)) (SX_cons (SX_set (i := 4) rfl (SE_bin b_add (SE_bin b_shl (SE_name (i := 4) rfl) SE_int) SE_int))
  (SX_cons (SX_aug (i := 7) rfl i_add SE_int)
  SX_nil))
  SX_nil)
  SX_nil)))
  (SX_cons (SX_ret (SE_callR (n := 4) l_from_man_exp (g_from_man_exp hK) hK rfl hrk (SEs_cons (SE_name (i := 4) rfl) (SEs_cons (SE_bin b_div (SE_bin b_sub (SE_name (i := 5) rfl) (SE_name (i := 7) rfl)) SE_int) (SEs_cons (SE_name (i := 1) rfl) (SEs_cons (SE_name (i := 2) rfl) SEs_nil))))))
  SX_nil))))))))

def q_l_round_10 (cx : Cx) : Tx := tSeq (tRet (tTup (tCons (tIfE (tTest (tBin kGt (tName 0) (tInt 0))) (tName 7) (tNeg (tName 7))) (tCons (tBin kAdd (tBin kSub (tName 2) (tName 6)) (tName 9)) tNil))))
  tSkip
def q_l_round_9 (cx : Cx) : Tx := tSeq (tWhile (tTest (tBin kEq (tBin kMod (tName 7) (tInt 2)) (tInt 0))) (tSeq (tSet 7 (tBin kDiv (tName 7) (tInt 2)))
  (tSeq (tAug 9 kAdd (tInt 1))
  tSkip)))
  (q_l_round_10 cx)
theorem s_l_round_9 {ρ σ P} (h : ∀ R : Tx, R = q_l_round_10 cx → tSeq (tWhile (tTest (tBin kEq (tBin kMod (tName 7) (tInt 2)) (tInt 0))) (tSeq (tSet 7 (tBin kDiv (tName 7) (tInt 2)))
  (tSeq (tAug 9 kAdd (tInt 1))
  tSkip))) R ρ σ P) : q_l_round_9 cx ρ σ P := h _ rfl
def q_l_round_8 (cx : Cx) : Tx := tSeq (tIf (tOrT (tTruth (tName 10)) (tOrT (tTruth (tName 8)) tFalse)) (tSeq (tIf (tTest (tBin kEq (tName 4) (tStr (Str.ofString "n")))) (tSeq (tSet 12 (tOr (tBin kGt (tName 10) (tName 11)) (tAnd (tBin kEq (tName 10) (tName 11)) (tOr (tBin kGt (tName 8) (tInt 0)) (tBin kEq (tBin kMod (tName 7) (tInt 2)) (tInt 1))))))
  tSkip)
  (tSeq (tSet 12 (tOr (tBin kEq (tName 4) (tStr (Str.ofString "u"))) (tOr (tAnd (tBin kEq (tName 4) (tStr (Str.ofString "f"))) (tBin kLt (tName 0) (tInt 0))) (tAnd (tBin kEq (tName 4) (tStr (Str.ofString "c"))) (tBin kGt (tName 0) (tInt 0))))))
  tSkip))
  (tSeq (tIf (tTruth (tName 12)) (tSeq (tAug 7 kAdd (tInt 1))
  tSkip)
  tSkip)
  tSkip))
  tSkip)
  (q_l_round_9 cx)
theorem s_l_round_8 {ρ σ P} (h : ∀ R : Tx, R = q_l_round_9 cx → tSeq (tIf (tOrT (tTruth (tName 10)) (tOrT (tTruth (tName 8)) tFalse)) (tSeq (tIf (tTest (tBin kEq (tName 4) (tStr (Str.ofString "n")))) (tSeq (tSet 12 (tOr (tBin kGt (tName 10) (tName 11)) (tAnd (tBin kEq (tName 10) (tName 11)) (tOr (tBin kGt (tName 8) (tInt 0)) (tBin kEq (tBin kMod (tName 7) (tInt 2)) (tInt 1))))))
  tSkip)
  (tSeq (tSet 12 (tOr (tBin kEq (tName 4) (tStr (Str.ofString "u"))) (tOr (tAnd (tBin kEq (tName 4) (tStr (Str.ofString "f"))) (tBin kLt (tName 0) (tInt 0))) (tAnd (tBin kEq (tName 4) (tStr (Str.ofString "c"))) (tBin kGt (tName 0) (tInt 0))))))
  tSkip))
  (tSeq (tIf (tTruth (tName 12)) (tSeq (tAug 7 kAdd (tInt 1))
  tSkip)
  tSkip)
  tSkip))
  tSkip) R ρ σ P) : q_l_round_8 cx ρ σ P := h _ rfl
def q_l_round_7 (cx : Cx) : Tx := tSeq (tSet 7 (tBin kShr (tName 7) (tName 9)))
  (q_l_round_8 cx)
theorem s_l_round_7 {ρ σ P} (h : ∀ R : Tx, R = q_l_round_8 cx → tSeq (tSet 7 (tBin kShr (tName 7) (tName 9))) R ρ σ P) : q_l_round_7 cx ρ σ P := h _ rfl
def q_l_round_6 (cx : Cx) : Tx := tSeq (tSet 11 (tBin kShl (tInt 1) (tBin kSub (tName 9) (tInt 1))))
  (q_l_round_7 cx)
theorem s_l_round_6 {ρ σ P} (h : ∀ R : Tx, R = q_l_round_7 cx → tSeq (tSet 11 (tBin kShl (tInt 1) (tBin kSub (tName 9) (tInt 1)))) R ρ σ P) : q_l_round_6 cx ρ σ P := h _ rfl
def q_l_round_5 (cx : Cx) : Tx := tSeq (tSet 10 (tBin kMod (tName 7) (tBin kShl (tInt 1) (tName 9))))
  (q_l_round_6 cx)
theorem s_l_round_5 {ρ σ P} (h : ∀ R : Tx, R = q_l_round_6 cx → tSeq (tSet 10 (tBin kMod (tName 7) (tBin kShl (tInt 1) (tName 9)))) R ρ σ P) : q_l_round_5 cx ρ σ P := h _ rfl
def q_l_round_4 (cx : Cx) : Tx := tSeq (tSet 9 (tBin kSub (tBl (tName 7)) (tName 3)))
  (q_l_round_5 cx)
theorem s_l_round_4 {ρ σ P} (h : ∀ R : Tx, R = q_l_round_5 cx → tSeq (tSet 9 (tBin kSub (tBl (tName 7)) (tName 3))) R ρ σ P) : q_l_round_4 cx ρ σ P := h _ rfl
def q_l_round_3 (cx : Cx) : Tx := tSeq (tIf (tTest (tBin kGe (tName 6) (tInt 0))) (tSeq (tUnpack [7, 8] (tB kDivmod (tCons (tBin kShl (tName 5) (tName 6)) (tCons (tName 1) tNil))))
  tSkip)
  (tSeq (tUnpack [7, 8] (tB kDivmod (tCons (tName 5) (tCons (tBin kShl (tName 1) (tNeg (tName 6))) tNil))))
  tSkip))
  (q_l_round_4 cx)
theorem s_l_round_3 {ρ σ P} (h : ∀ R : Tx, R = q_l_round_4 cx → tSeq (tIf (tTest (tBin kGe (tName 6) (tInt 0))) (tSeq (tUnpack [7, 8] (tB kDivmod (tCons (tBin kShl (tName 5) (tName 6)) (tCons (tName 1) tNil))))
  tSkip)
  (tSeq (tUnpack [7, 8] (tB kDivmod (tCons (tName 5) (tCons (tBin kShl (tName 1) (tNeg (tName 6))) tNil))))
  tSkip)) R ρ σ P) : q_l_round_3 cx ρ σ P := h _ rfl
def q_l_round_2 (cx : Cx) : Tx := tSeq (tSet 6 (tBin kAdd (tBin kSub (tBin kAdd (tName 3) (tBl (tName 1))) (tBl (tName 5))) (tInt 1)))
  (q_l_round_3 cx)
theorem s_l_round_2 {ρ σ P} (h : ∀ R : Tx, R = q_l_round_3 cx → tSeq (tSet 6 (tBin kAdd (tBin kSub (tBin kAdd (tName 3) (tBl (tName 1))) (tBl (tName 5))) (tInt 1))) R ρ σ P) : q_l_round_2 cx ρ σ P := h _ rfl
def q_l_round_1 (cx : Cx) : Tx := tSeq (tSet 5 (tB kAbs (tCons (tName 0) tNil)))
  (q_l_round_2 cx)
theorem s_l_round_1 {ρ σ P} (h : ∀ R : Tx, R = q_l_round_2 cx → tSeq (tSet 5 (tB kAbs (tCons (tName 0) tNil))) R ρ σ P) : q_l_round_1 cx ρ σ P := h _ rfl
def q_l_round (cx : Cx) : Tx := tSeq (tIf (tTest (tBin kEq (tName 0) (tInt 0))) (tSeq (tRet (tTup (tCons (tInt 0) (tCons (tInt 0) tNil))))
  tSkip)
  tSkip)
  (q_l_round_1 cx)
theorem s_l_round {ρ σ P} (h : ∀ R : Tx, R = q_l_round_1 cx → tSeq (tIf (tTest (tBin kEq (tName 0) (tInt 0))) (tSeq (tRet (tTup (tCons (tInt 0) (tCons (tInt 0) tNil))))
  tSkip)
  tSkip) R ρ σ P) : q_l_round cx ρ σ P := h _ rfl
abbrev ns_l_round : List Str := [Str.ofString "num", Str.ofString "den", Str.ofString "power", Str.ofString "bits", Str.ofString "way", Str.ofString "a", Str.ofString "k", Str.ofString "q", Str.ofString "r", Str.ofString "extra", Str.ofString "low", Str.ofString "half", Str.ofString "up"]
theorem w_l_round (hK : KK cx) {args : List PyData} {out : Except Exn PyData} (hl : args.length = 5) (hvc : q_l_round cx (valSlots (args ++ []) 8) [] (callPost out)) : CallOK cx 324 0 args out := by
  refine call_ok (n := 8) (dfl := []) (tx := q_l_round cx) [Str.ofString "num", Str.ofString "den", Str.ofString "power", Str.ofString "bits", Str.ofString "way"] ns_l_round [] hK rfl (by kernel_rfl) (fun us s hu hk => ?_) (fun _ _ _ _ => Rds.nil) (by rw [List.length_append, hl]; rfl) (fun i x h => ?_) (by decide +kernel) (by decide +kernel) rfl rfl rfl (by decide) (fun fc hcs hrk => ?_) hvc
  · rw [hl] at hu
    obtain ⟨u0, u1, u2, u3, u4, rfl⟩ := len_5 hu
    exact BindsTo.of_eq rfl
  · exact nth_sub (by decide +kernel) h
  · have l_abs : fc.cs.names.lookup (Str.ofString "abs") = some .globalImplicit := by rw [hcs]; rfl
    have l_divmod : fc.cs.names.lookup (Str.ofString "divmod") = some .globalImplicit := by rw [hcs]; rfl
    exact (SX_cons (SX_if (ST_cmp c_eq (SE_name (i := 0) rfl) SE_int rfl) (SX_cons (SX_ret (SE_tup (SEs_cons SE_int (SEs_cons SE_int SEs_nil))))
  SX_nil)
  SX_nil)
  (SX_cons (SX_set (i := 5) rfl (SE_bcall l_abs (n_abs hK) Boot.«abs» bc_abs (SEs_cons (SE_name (i := 0) rfl) SEs_nil)))
  (SX_cons (SX_set (i := 6) rfl (SE_bin b_add (SE_bin b_sub (SE_bin b_add (SE_name (i := 3) rfl) (SE_bl (SE_name (i := 1) rfl) rfl rfl)) (SE_bl (SE_name (i := 5) rfl) rfl rfl)) SE_int))
  (SX_cons (SX_if (ST_cmp c_ge (SE_name (i := 6) rfl) SE_int rfl) (SX_cons (SX_unpack (xs := [Str.ofString "q", Str.ofString "r"]) (SE_bcall l_divmod (n_divmod hK) Boot.«divmod» bc_divmod (SEs_cons (SE_bin b_shl (SE_name (i := 5) rfl) (SE_name (i := 6) rfl)) (SEs_cons (SE_name (i := 1) rfl) SEs_nil))) rfl (NameElts.cons (NameElts.cons NameElts.nil)) rfl rfl)
  SX_nil)
  (SX_cons (SX_unpack (xs := [Str.ofString "q", Str.ofString "r"]) (SE_bcall l_divmod (n_divmod hK) Boot.«divmod» bc_divmod (SEs_cons (SE_name (i := 5) rfl) (SEs_cons (SE_bin b_shl (SE_name (i := 1) rfl) (SE_neg (SE_name (i := 6) rfl))) SEs_nil))) rfl (NameElts.cons (NameElts.cons NameElts.nil)) rfl rfl)
  SX_nil))
  (SX_cons (SX_set (i := 9) rfl (SE_bin b_sub (SE_bl (SE_name (i := 7) rfl) rfl rfl) (SE_name (i := 3) rfl)))
  (SX_cons (SX_set (i := 10) rfl (SE_bin b_mod (SE_name (i := 7) rfl) (SE_bin b_shl SE_int (SE_name (i := 9) rfl))))
  (SX_cons (SX_set (i := 11) rfl (SE_bin b_shl SE_int (SE_bin b_sub (SE_name (i := 9) rfl) SE_int)))
  (SX_cons (SX_set (i := 7) rfl (SE_bin b_shr (SE_name (i := 7) rfl) (SE_name (i := 9) rfl)))
  (SX_cons (SX_if (ST_bool (STs_or_cons (ST_val (SE_name (i := 10) rfl)) (STs_or_cons (ST_val (SE_name (i := 8) rfl)) STs_or_nil))) (SX_cons (SX_if (ST_cmp c_eq (SE_name (i := 4) rfl) SE_str rfl) (SX_cons (SX_set (i := 12) rfl (SE_or (SE_cmp c_gt (SE_name (i := 10) rfl) (SE_name (i := 11) rfl) rfl) (SE_one (SE_and (SE_cmp c_eq (SE_name (i := 10) rfl) (SE_name (i := 11) rfl) rfl) (SE_one (SE_or (SE_cmp c_gt (SE_name (i := 8) rfl) SE_int rfl) (SE_one (SE_cmp c_eq (SE_bin b_mod (SE_name (i := 7) rfl) SE_int) SE_int rfl))))))))
  SX_nil)
  (SX_cons (SX_set (i := 12) rfl (SE_or (SE_cmp c_eq (SE_name (i := 4) rfl) SE_str rfl) (SE_or (SE_and (SE_cmp c_eq (SE_name (i := 4) rfl) SE_str rfl) (SE_one (SE_cmp c_lt (SE_name (i := 0) rfl) SE_int rfl))) (SE_one (SE_and (SE_cmp c_eq (SE_name (i := 4) rfl) SE_str rfl) (SE_one (SE_cmp c_gt (SE_name (i := 0) rfl) SE_int rfl)))))))
  SX_nil))
  (SX_cons (SX_if (ST_val (SE_name (i := 12) rfl)) (SX_cons (SX_aug (i := 7) rfl i_add SE_int)
  SX_nil)
  SX_nil)
  SX_nil))
  SX_nil)
  (SX_cons (SX_while (ST_cmp c_eq (SE_bin b_mod (SE_name (i := 7) rfl) SE_int) SE_int rfl) (SX_cons (SX_set (i := 7) rfl (SE_bin b_div (SE_name (i := 7) rfl) SE_int))
  (SX_cons (SX_aug (i := 9) rfl i_add SE_int)
  SX_nil)))
  (SX_cons (SX_ret (SE_tup (SEs_cons (SE_if (ST_cmp c_gt (SE_name (i := 0) rfl) SE_int rfl) (SE_name (i := 7) rfl) (SE_neg (SE_name (i := 7) rfl))) (SEs_cons (SE_bin b_add (SE_bin b_sub (SE_name (i := 2) rfl) (SE_name (i := 6) rfl)) (SE_name (i := 9) rfl)) SEs_nil))))
  SX_nil)))))))))))

def q_l_root_5 (cx : Cx) : Tx := tSeq (tRet (tCall cx 1 324 (tCons (tBin kAdd (tBin kMul (tInt 2) (tName 6)) (tIfE (tTest (tBin kEq (tBin kMul (tName 6) (tName 6)) (tName 5))) (tInt 0) (tInt 1))) (tCons (tInt 1) (tCons (tBin kSub (tBin kDiv (tBin kSub (tName 1) (tName 4)) (tInt 2)) (tInt 1)) (tCons (tName 2) (tCons (tName 3) tNil)))))))
  tSkip
def q_l_root_4 (cx : Cx) : Tx := tSeq (tWhile (tTest (tBin kGt (tBin kSub (tName 7) (tName 6)) (tInt 1))) (tSeq (tSet 8 (tBin kDiv (tBin kAdd (tName 6) (tName 7)) (tInt 2)))
  (tSeq (tIf (tTest (tBin kLe (tBin kMul (tName 8) (tName 8)) (tName 5))) (tSeq (tSet 6 (tName 8))
  tSkip)
  (tSeq (tSet 7 (tName 8))
  tSkip))
  tSkip)))
  (q_l_root_5 cx)
theorem s_l_root_4 {ρ σ P} (h : ∀ R : Tx, R = q_l_root_5 cx → tSeq (tWhile (tTest (tBin kGt (tBin kSub (tName 7) (tName 6)) (tInt 1))) (tSeq (tSet 8 (tBin kDiv (tBin kAdd (tName 6) (tName 7)) (tInt 2)))
  (tSeq (tIf (tTest (tBin kLe (tBin kMul (tName 8) (tName 8)) (tName 5))) (tSeq (tSet 6 (tName 8))
  tSkip)
  (tSeq (tSet 7 (tName 8))
  tSkip))
  tSkip))) R ρ σ P) : q_l_root_4 cx ρ σ P := h _ rfl
def q_l_root_3 (cx : Cx) : Tx := tSeq (tUnpackR [6, 7] (tTup (tCons (tInt 0) (tCons (tBin kShl (tInt 1) (tBin kAdd (tBin kDiv (tBl (tName 5)) (tInt 2)) (tInt 1))) tNil))))
  (q_l_root_4 cx)
theorem s_l_root_3 {ρ σ P} (h : ∀ R : Tx, R = q_l_root_4 cx → tSeq (tUnpackR [6, 7] (tTup (tCons (tInt 0) (tCons (tBin kShl (tInt 1) (tBin kAdd (tBin kDiv (tBl (tName 5)) (tInt 2)) (tInt 1))) tNil)))) R ρ σ P) : q_l_root_3 cx ρ σ P := h _ rfl
def q_l_root_2 (cx : Cx) : Tx := tSeq (tSet 5 (tBin kShl (tName 0) (tName 4)))
  (q_l_root_3 cx)
theorem s_l_root_2 {ρ σ P} (h : ∀ R : Tx, R = q_l_root_3 cx → tSeq (tSet 5 (tBin kShl (tName 0) (tName 4))) R ρ σ P) : q_l_root_2 cx ρ σ P := h _ rfl
def q_l_root_1 (cx : Cx) : Tx := tSeq (tIf (tTruth (tBin kMod (tBin kSub (tName 1) (tName 4)) (tInt 2))) (tSeq (tAug 4 kAdd (tInt 1))
  tSkip)
  tSkip)
  (q_l_root_2 cx)
theorem s_l_root_1 {ρ σ P} (h : ∀ R : Tx, R = q_l_root_2 cx → tSeq (tIf (tTruth (tBin kMod (tBin kSub (tName 1) (tName 4)) (tInt 2))) (tSeq (tAug 4 kAdd (tInt 1))
  tSkip)
  tSkip) R ρ σ P) : q_l_root_1 cx ρ σ P := h _ rfl
def q_l_root (cx : Cx) : Tx := tSeq (tSet 4 (tB kMax (tCons (tInt 0) (tCons (tBin kSub (tBin kAdd (tBin kMul (tInt 2) (tName 2)) (tInt 6)) (tBl (tName 0))) tNil))))
  (q_l_root_1 cx)
theorem s_l_root {ρ σ P} (h : ∀ R : Tx, R = q_l_root_1 cx → tSeq (tSet 4 (tB kMax (tCons (tInt 0) (tCons (tBin kSub (tBin kAdd (tBin kMul (tInt 2) (tName 2)) (tInt 6)) (tBl (tName 0))) tNil)))) R ρ σ P) : q_l_root cx ρ σ P := h _ rfl
abbrev ns_l_root : List Str := [Str.ofString "num", Str.ofString "power", Str.ofString "bits", Str.ofString "way", Str.ofString "k", Str.ofString "a", Str.ofString "low", Str.ofString "high", Str.ofString "mid"]
theorem w_l_root (hK : KK cx) {args : List PyData} {out : Except Exn PyData} (hl : args.length = 4) (hvc : q_l_root cx (valSlots (args ++ []) 5) [] (callPost out)) : CallOK cx 331 1 args out := by
  refine call_ok (n := 5) (dfl := []) (tx := q_l_root cx) [Str.ofString "num", Str.ofString "power", Str.ofString "bits", Str.ofString "way"] ns_l_root [] hK rfl (by kernel_rfl) (fun us s hu hk => ?_) (fun _ _ _ _ => Rds.nil) (by rw [List.length_append, hl]; rfl) (fun i x h => ?_) (by decide +kernel) (by decide +kernel) rfl rfl rfl (by decide) (fun fc hcs hrk => ?_) hvc
  · rw [hl] at hu
    obtain ⟨u0, u1, u2, u3, rfl⟩ := len_4 hu
    exact BindsTo.of_eq rfl
  · exact nth_sub (by decide +kernel) h
  · have l_max : fc.cs.names.lookup (Str.ofString "max") = some .globalImplicit := by rw [hcs]; rfl
    have l_law_round : fc.cs.names.lookup (Str.ofString "_law_round") = some .globalImplicit := by rw [hcs]; rfl
    exact (SX_cons (SX_set (i := 4) rfl (SE_bcall l_max (n_max hK) Boot.«max» bc_max (SEs_cons SE_int (SEs_cons (SE_bin b_sub (SE_bin b_add (SE_bin b_mul SE_int (SE_name (i := 2) rfl)) SE_int) (SE_bl (SE_name (i := 0) rfl) rfl rfl)) SEs_nil))))
  (SX_cons (SX_if (ST_val (SE_bin b_mod (SE_bin b_sub (SE_name (i := 1) rfl) (SE_name (i := 4) rfl)) SE_int)) (SX_cons (SX_aug (i := 4) rfl i_add SE_int)
  SX_nil)
  SX_nil)
  (SX_cons (SX_set (i := 5) rfl (SE_bin b_shl (SE_name (i := 0) rfl) (SE_name (i := 4) rfl)))
  (SX_cons (SX_swap (xs := [Str.ofString "low", Str.ofString "high"]) hcs (SE_tup (SEs_cons SE_int (SEs_cons (SE_bin b_shl SE_int (SE_bin b_add (SE_bin b_div (SE_bl (SE_name (i := 5) rfl) rfl rfl) SE_int) SE_int)) SEs_nil))) rfl rfl rfl)
  (SX_cons (SX_while (ST_cmp c_gt (SE_bin b_sub (SE_name (i := 7) rfl) (SE_name (i := 6) rfl)) SE_int rfl) (SX_cons (SX_set (i := 8) rfl (SE_bin b_div (SE_bin b_add (SE_name (i := 6) rfl) (SE_name (i := 7) rfl)) SE_int))
  (SX_cons (SX_if (ST_cmp c_le (SE_bin b_mul (SE_name (i := 8) rfl) (SE_name (i := 8) rfl)) (SE_name (i := 5) rfl) rfl) (SX_cons (SX_set (i := 6) rfl (SE_name (i := 8) rfl))
  SX_nil)
  (SX_cons (SX_set (i := 7) rfl (SE_name (i := 8) rfl))
  SX_nil))
  SX_nil)))
  (SX_cons (SX_ret (SE_callR (n := 1) l_law_round (g_l_round hK) hK rfl hrk (SEs_cons (SE_bin b_add (SE_bin b_mul SE_int (SE_name (i := 6) rfl)) (SE_if (ST_cmp c_eq (SE_bin b_mul (SE_name (i := 6) rfl) (SE_name (i := 6) rfl)) (SE_name (i := 5) rfl) rfl) SE_int SE_int)) (SEs_cons SE_int (SEs_cons (SE_bin b_sub (SE_bin b_div (SE_bin b_sub (SE_name (i := 1) rfl) (SE_name (i := 4) rfl)) SE_int) SE_int) (SEs_cons (SE_name (i := 2) rfl) (SEs_cons (SE_name (i := 3) rfl) SEs_nil)))))))
  SX_nil))))))

def q_l_plus_1 (cx : Cx) : Tx := tSeq (tRet (tTup (tCons (tBin kAdd (tBin kShl (tSub (tName 0) (tInt 0)) (tBin kSub (tSub (tName 0) (tInt 1)) (tName 2))) (tBin kShl (tSub (tName 1) (tInt 0)) (tBin kSub (tSub (tName 1) (tInt 1)) (tName 2)))) (tCons (tName 2) tNil))))
  tSkip
def q_l_plus (cx : Cx) : Tx := tSeq (tSet 2 (tB kMin (tCons (tSub (tName 0) (tInt 1)) (tCons (tSub (tName 1) (tInt 1)) tNil))))
  (q_l_plus_1 cx)
theorem s_l_plus {ρ σ P} (h : ∀ R : Tx, R = q_l_plus_1 cx → tSeq (tSet 2 (tB kMin (tCons (tSub (tName 0) (tInt 1)) (tCons (tSub (tName 1) (tInt 1)) tNil)))) R ρ σ P) : q_l_plus cx ρ σ P := h _ rfl
abbrev ns_l_plus : List Str := [Str.ofString "v", Str.ofString "w", Str.ofString "base"]
theorem w_l_plus (hK : KK cx) {args : List PyData} {out : Except Exn PyData} (hl : args.length = 2) (hvc : q_l_plus cx (valSlots (args ++ []) 1) [] (callPost out)) : CallOK cx 338 0 args out := by
  refine call_ok (n := 1) (dfl := []) (tx := q_l_plus cx) [Str.ofString "v", Str.ofString "w"] ns_l_plus [] hK rfl (by kernel_rfl) (fun us s hu hk => ?_) (fun _ _ _ _ => Rds.nil) (by rw [List.length_append, hl]; rfl) (fun i x h => ?_) (by decide +kernel) (by decide +kernel) rfl rfl rfl (by decide) (fun fc hcs hrk => ?_) hvc
  · rw [hl] at hu
    obtain ⟨u0, u1, rfl⟩ := len_2 hu
    exact BindsTo.of_eq rfl
  · exact nth_sub (by decide +kernel) h
  · have l_min : fc.cs.names.lookup (Str.ofString "min") = some .globalImplicit := by rw [hcs]; rfl
    exact (SX_cons (SX_set (i := 2) rfl (SE_bcall l_min (n_min hK) Boot.«min» bc_min (SEs_cons (SE_sub (SE_name (i := 0) rfl) SE_int (fun _ _ => rfl)) (SEs_cons (SE_sub (SE_name (i := 1) rfl) SE_int (fun _ _ => rfl)) SEs_nil))))
  (SX_cons (SX_ret (SE_tup (SEs_cons (SE_bin b_add (SE_bin b_shl (SE_sub (SE_name (i := 0) rfl) SE_int (fun _ _ => rfl)) (SE_bin b_sub (SE_sub (SE_name (i := 0) rfl) SE_int (fun _ _ => rfl)) (SE_name (i := 2) rfl))) (SE_bin b_shl (SE_sub (SE_name (i := 1) rfl) SE_int (fun _ _ => rfl)) (SE_bin b_sub (SE_sub (SE_name (i := 1) rfl) SE_int (fun _ _ => rfl)) (SE_name (i := 2) rfl)))) (SEs_cons (SE_name (i := 2) rfl) SEs_nil))))
  SX_nil))

def q_l_whole_7 (cx : Cx) : Tx := tSeq (tRet (tName 5))
  tSkip
def q_l_whole_6 (cx : Cx) : Tx := tSeq (tIf (tTest (tBin kEq (tName 1) (tInt 13))) (tSeq (tRet (tBin kAdd (tName 5) (tIfE (tOrT (tTest (tBin kGt (tName 6) (tName 4))) (tOrT (tAndT (tTest (tBin kEq (tName 6) (tName 4))) (tAndT (tTest (tBin kEq (tBin kMod (tName 5) (tInt 2)) (tInt 1))) tTrue)) tFalse)) (tInt 1) (tInt 0))))
  tSkip)
  tSkip)
  (q_l_whole_7 cx)
theorem s_l_whole_6 {ρ σ P} (h : ∀ R : Tx, R = q_l_whole_7 cx → tSeq (tIf (tTest (tBin kEq (tName 1) (tInt 13))) (tSeq (tRet (tBin kAdd (tName 5) (tIfE (tOrT (tTest (tBin kGt (tName 6) (tName 4))) (tOrT (tAndT (tTest (tBin kEq (tName 6) (tName 4))) (tAndT (tTest (tBin kEq (tBin kMod (tName 5) (tInt 2)) (tInt 1))) tTrue)) tFalse)) (tInt 1) (tInt 0))))
  tSkip)
  tSkip) R ρ σ P) : q_l_whole_6 cx ρ σ P := h _ rfl
def q_l_whole_5 (cx : Cx) : Tx := tSeq (tIf (tTest (tBin kEq (tName 1) (tInt 12))) (tSeq (tRet (tBin kAdd (tName 5) (tIfE (tTruth (tName 6)) (tInt 1) (tInt 0))))
  tSkip)
  tSkip)
  (q_l_whole_6 cx)
theorem s_l_whole_5 {ρ σ P} (h : ∀ R : Tx, R = q_l_whole_6 cx → tSeq (tIf (tTest (tBin kEq (tName 1) (tInt 12))) (tSeq (tRet (tBin kAdd (tName 5) (tIfE (tTruth (tName 6)) (tInt 1) (tInt 0))))
  tSkip)
  tSkip) R ρ σ P) : q_l_whole_5 cx ρ σ P := h _ rfl
def q_l_whole_4 (cx : Cx) : Tx := tSeq (tSet 6 (tBin kMul (tInt 2) (tBin kSub (tName 2) (tBin kMul (tName 5) (tName 4)))))
  (q_l_whole_5 cx)
theorem s_l_whole_4 {ρ σ P} (h : ∀ R : Tx, R = q_l_whole_5 cx → tSeq (tSet 6 (tBin kMul (tInt 2) (tBin kSub (tName 2) (tBin kMul (tName 5) (tName 4))))) R ρ σ P) : q_l_whole_4 cx ρ σ P := h _ rfl
def q_l_whole_3 (cx : Cx) : Tx := tSeq (tSet 5 (tBin kDiv (tName 2) (tName 4)))
  (q_l_whole_4 cx)
theorem s_l_whole_3 {ρ σ P} (h : ∀ R : Tx, R = q_l_whole_4 cx → tSeq (tSet 5 (tBin kDiv (tName 2) (tName 4))) R ρ σ P) : q_l_whole_3 cx ρ σ P := h _ rfl
def q_l_whole_2 (cx : Cx) : Tx := tSeq (tSet 4 (tBin kShl (tInt 1) (tNeg (tName 3))))
  (q_l_whole_3 cx)
theorem s_l_whole_2 {ρ σ P} (h : ∀ R : Tx, R = q_l_whole_3 cx → tSeq (tSet 4 (tBin kShl (tInt 1) (tNeg (tName 3)))) R ρ σ P) : q_l_whole_2 cx ρ σ P := h _ rfl
def q_l_whole_1 (cx : Cx) : Tx := tSeq (tIf (tTest (tBin kGe (tName 3) (tInt 0))) (tSeq (tRet (tBin kShl (tName 2) (tName 3)))
  tSkip)
  tSkip)
  (q_l_whole_2 cx)
theorem s_l_whole_1 {ρ σ P} (h : ∀ R : Tx, R = q_l_whole_2 cx → tSeq (tIf (tTest (tBin kGe (tName 3) (tInt 0))) (tSeq (tRet (tBin kShl (tName 2) (tName 3)))
  tSkip)
  tSkip) R ρ σ P) : q_l_whole_1 cx ρ σ P := h _ rfl
def q_l_whole (cx : Cx) : Tx := tSeq (tUnpack [2, 3] (tName 0))
  (q_l_whole_1 cx)
theorem s_l_whole {ρ σ P} (h : ∀ R : Tx, R = q_l_whole_1 cx → tSeq (tUnpack [2, 3] (tName 0)) R ρ σ P) : q_l_whole cx ρ σ P := h _ rfl
abbrev ns_l_whole : List Str := [Str.ofString "v", Str.ofString "kind", Str.ofString "m", Str.ofString "e", Str.ofString "one", Str.ofString "down", Str.ofString "twice"]
theorem w_l_whole (hK : KK cx) {args : List PyData} {out : Except Exn PyData} (hl : args.length = 2) (hvc : q_l_whole cx (valSlots (args ++ []) 5) [] (callPost out)) : CallOK cx 345 0 args out := by
  refine call_ok (n := 5) (dfl := []) (tx := q_l_whole cx) [Str.ofString "v", Str.ofString "kind"] ns_l_whole [] hK rfl (by kernel_rfl) (fun us s hu hk => ?_) (fun _ _ _ _ => Rds.nil) (by rw [List.length_append, hl]; rfl) (fun i x h => ?_) (by decide +kernel) (by decide +kernel) rfl rfl rfl (by decide) (fun fc hcs hrk => ?_) hvc
  · rw [hl] at hu
    obtain ⟨u0, u1, rfl⟩ := len_2 hu
    exact BindsTo.of_eq rfl
  · exact nth_sub (by decide +kernel) h
  · skip
    exact (SX_cons (SX_unpack (xs := [Str.ofString "m", Str.ofString "e"]) (SE_name (i := 0) rfl) rfl (NameElts.cons (NameElts.cons NameElts.nil)) rfl rfl)
  (SX_cons (SX_if (ST_cmp c_ge (SE_name (i := 3) rfl) SE_int rfl) (SX_cons (SX_ret (SE_bin b_shl (SE_name (i := 2) rfl) (SE_name (i := 3) rfl)))
  SX_nil)
  SX_nil)
  (SX_cons (SX_set (i := 4) rfl (SE_bin b_shl SE_int (SE_neg (SE_name (i := 3) rfl))))
  (SX_cons (SX_set (i := 5) rfl (SE_bin b_div (SE_name (i := 2) rfl) (SE_name (i := 4) rfl)))
  (SX_cons (SX_set (i := 6) rfl (SE_bin b_mul SE_int (SE_bin b_sub (SE_name (i := 2) rfl) (SE_bin b_mul (SE_name (i := 5) rfl) (SE_name (i := 4) rfl)))))
  (SX_cons (SX_if (ST_cmp c_eq (SE_name (i := 1) rfl) SE_int rfl) (SX_cons (SX_ret (SE_bin b_add (SE_name (i := 5) rfl) (SE_if (ST_val (SE_name (i := 6) rfl)) SE_int SE_int)))
  SX_nil)
  SX_nil)
  (SX_cons (SX_if (ST_cmp c_eq (SE_name (i := 1) rfl) SE_int rfl) (SX_cons (SX_ret (SE_bin b_add (SE_name (i := 5) rfl) (SE_if (ST_bool (STs_or_cons (ST_cmp c_gt (SE_name (i := 6) rfl) (SE_name (i := 4) rfl) rfl) (STs_or_cons (ST_bool (STs_and_cons (ST_cmp c_eq (SE_name (i := 6) rfl) (SE_name (i := 4) rfl) rfl) (STs_and_cons (ST_cmp c_eq (SE_bin b_mod (SE_name (i := 5) rfl) SE_int) SE_int rfl) STs_and_nil))) STs_or_nil))) SE_int SE_int)))
  SX_nil)
  SX_nil)
  (SX_cons (SX_ret (SE_name (i := 5) rfl))
  SX_nil))))))))

def q_l_plain_7 (cx : Cx) : Tx := tSeq (tRet (tCall cx 2 324 (tCons (tSub (tName 10) (tInt 0)) (tCons (tInt 1) (tCons (tSub (tName 10) (tInt 1)) (tCons (tName 5) (tCons (tName 6) tNil)))))))
  tSkip
def q_l_plain_6 (cx : Cx) : Tx := tSeq (tIf (tTest (tBin kLt (tName 0) (tInt 2))) (tSeq (tSet 10 (tCall cx 2 338 (tCons (tName 1) (tCons (tIfE (tTest (tBin kEq (tName 0) (tInt 0))) (tName 2) (tTup (tCons (tNeg (tSub (tName 2) (tInt 0))) (tCons (tSub (tName 2) (tInt 1)) tNil)))) tNil))))
  tSkip)
  (tSeq (tIf (tTest (tBin kEq (tName 0) (tInt 2))) (tSeq (tSet 10 (tTup (tCons (tBin kMul (tName 7) (tSub (tName 2) (tInt 0))) (tCons (tBin kAdd (tName 8) (tSub (tName 2) (tInt 1))) tNil))))
  tSkip)
  (tSeq (tIf (tTest (tBin kEq (tName 0) (tInt 4))) (tSeq (tSet 11 (tB kMin (tCons (tName 8) (tCons (tSub (tName 2) (tInt 1)) tNil))))
  (tSeq (tSet 12 (tBin kShl (tName 7) (tBin kSub (tName 8) (tName 11))))
  (tSeq (tSet 13 (tBin kShl (tSub (tName 2) (tInt 0)) (tBin kSub (tSub (tName 2) (tInt 1)) (tName 11))))
  (tSeq (tSet 10 (tTup (tCons (tBin kSub (tName 12) (tBin kMul (tName 13) (tBin kDiv (tName 12) (tName 13)))) (tCons (tName 11) tNil))))
  tSkip))))
  (tSeq (tIf (tTest (tBin kLt (tName 0) (tInt 8))) (tSeq (tSet 5 (tBin kAdd (tInt 1) (tBin kMod (tName 4) (tName 5))))
  (tSeq (tSet 10 (tTup (tCons (tIfE (tTest (tBin kEq (tName 0) (tInt 5))) (tNeg (tName 7)) (tIfE (tTest (tBin kEq (tName 0) (tInt 6))) (tB kAbs (tCons (tName 7) tNil)) (tName 7))) (tCons (tName 8) tNil))))
  tSkip))
  (tSeq (tIf (tTest (tBin kEq (tName 0) (tInt 8))) (tSeq (tSet 10 (tTup (tCons (tName 7) (tCons (tBin kSub (tBin kAdd (tName 8) (tBin kMod (tName 4) (tInt 21))) (tInt 10)) tNil))))
  tSkip)
  (tSeq (tIf (tTest (tBin kEq (tName 0) (tInt 10))) (tSeq (tSet 10 (tCall cx 2 338 (tCons (tName 1) (tCons (tTup (tCons (tNeg (tCall cx 2 345 (tCons (tName 1) (tCons (tInt 11) tNil)))) (tCons (tInt 0) tNil))) tNil))))
  tSkip)
  (tSeq (tIf (tTest (tBin kLt (tName 0) (tInt 14))) (tSeq (tSet 10 (tTup (tCons (tCall cx 2 345 (tCons (tName 1) (tCons (tName 0) tNil))) (tCons (tInt 0) tNil))))
  tSkip)
  (tSeq (tIf (tTest (tBin kEq (tName 0) (tInt 14))) (tSeq (tSet 10 (tTup (tCons (tBin kPow (tName 7) (tBin kMod (tName 4) (tInt 6))) (tCons (tBin kMul (tName 8) (tBin kMod (tName 4) (tInt 6))) tNil))))
  tSkip)
  (tSeq (tIf (tTest (tBin kEq (tName 0) (tInt 15))) (tSeq (tSet 10 (tTup (tCons (tBin kMul (tName 7) (tBin kSub (tBin kMod (tName 4) (tInt 2001)) (tInt 1000))) (tCons (tName 8) tNil))))
  tSkip)
  (tSeq (tIf (tTest (tBin kEq (tName 0) (tInt 17))) (tSeq (tSet 10 (tCall cx 2 338 (tCons (tCall cx 2 338 (tCons (tName 1) (tCons (tName 2) tNil))) (tCons (tCall cx 2 338 (tCons (tName 3) (tCons (tName 1) tNil))) tNil))))
  tSkip)
  (tSeq (tSet 10 (tCall cx 2 338 (tCons (tTup (tCons (tBin kMul (tName 7) (tSub (tName 2) (tInt 0))) (tCons (tBin kAdd (tName 8) (tSub (tName 2) (tInt 1))) tNil))) (tCons (tName 3) tNil))))
  tSkip))
  tSkip))
  tSkip))
  tSkip))
  tSkip))
  tSkip))
  tSkip))
  tSkip))
  tSkip))
  tSkip))
  (q_l_plain_7 cx)
theorem s_l_plain_6 {ρ σ P} (h : ∀ R : Tx, R = q_l_plain_7 cx → tSeq (tIf (tTest (tBin kLt (tName 0) (tInt 2))) (tSeq (tSet 10 (tCall cx 2 338 (tCons (tName 1) (tCons (tIfE (tTest (tBin kEq (tName 0) (tInt 0))) (tName 2) (tTup (tCons (tNeg (tSub (tName 2) (tInt 0))) (tCons (tSub (tName 2) (tInt 1)) tNil)))) tNil))))
  tSkip)
  (tSeq (tIf (tTest (tBin kEq (tName 0) (tInt 2))) (tSeq (tSet 10 (tTup (tCons (tBin kMul (tName 7) (tSub (tName 2) (tInt 0))) (tCons (tBin kAdd (tName 8) (tSub (tName 2) (tInt 1))) tNil))))
  tSkip)
  (tSeq (tIf (tTest (tBin kEq (tName 0) (tInt 4))) (tSeq (tSet 11 (tB kMin (tCons (tName 8) (tCons (tSub (tName 2) (tInt 1)) tNil))))
  (tSeq (tSet 12 (tBin kShl (tName 7) (tBin kSub (tName 8) (tName 11))))
  (tSeq (tSet 13 (tBin kShl (tSub (tName 2) (tInt 0)) (tBin kSub (tSub (tName 2) (tInt 1)) (tName 11))))
  (tSeq (tSet 10 (tTup (tCons (tBin kSub (tName 12) (tBin kMul (tName 13) (tBin kDiv (tName 12) (tName 13)))) (tCons (tName 11) tNil))))
  tSkip))))
  (tSeq (tIf (tTest (tBin kLt (tName 0) (tInt 8))) (tSeq (tSet 5 (tBin kAdd (tInt 1) (tBin kMod (tName 4) (tName 5))))
  (tSeq (tSet 10 (tTup (tCons (tIfE (tTest (tBin kEq (tName 0) (tInt 5))) (tNeg (tName 7)) (tIfE (tTest (tBin kEq (tName 0) (tInt 6))) (tB kAbs (tCons (tName 7) tNil)) (tName 7))) (tCons (tName 8) tNil))))
  tSkip))
  (tSeq (tIf (tTest (tBin kEq (tName 0) (tInt 8))) (tSeq (tSet 10 (tTup (tCons (tName 7) (tCons (tBin kSub (tBin kAdd (tName 8) (tBin kMod (tName 4) (tInt 21))) (tInt 10)) tNil))))
  tSkip)
  (tSeq (tIf (tTest (tBin kEq (tName 0) (tInt 10))) (tSeq (tSet 10 (tCall cx 2 338 (tCons (tName 1) (tCons (tTup (tCons (tNeg (tCall cx 2 345 (tCons (tName 1) (tCons (tInt 11) tNil)))) (tCons (tInt 0) tNil))) tNil))))
  tSkip)
  (tSeq (tIf (tTest (tBin kLt (tName 0) (tInt 14))) (tSeq (tSet 10 (tTup (tCons (tCall cx 2 345 (tCons (tName 1) (tCons (tName 0) tNil))) (tCons (tInt 0) tNil))))
  tSkip)
  (tSeq (tIf (tTest (tBin kEq (tName 0) (tInt 14))) (tSeq (tSet 10 (tTup (tCons (tBin kPow (tName 7) (tBin kMod (tName 4) (tInt 6))) (tCons (tBin kMul (tName 8) (tBin kMod (tName 4) (tInt 6))) tNil))))
  tSkip)
  (tSeq (tIf (tTest (tBin kEq (tName 0) (tInt 15))) (tSeq (tSet 10 (tTup (tCons (tBin kMul (tName 7) (tBin kSub (tBin kMod (tName 4) (tInt 2001)) (tInt 1000))) (tCons (tName 8) tNil))))
  tSkip)
  (tSeq (tIf (tTest (tBin kEq (tName 0) (tInt 17))) (tSeq (tSet 10 (tCall cx 2 338 (tCons (tCall cx 2 338 (tCons (tName 1) (tCons (tName 2) tNil))) (tCons (tCall cx 2 338 (tCons (tName 3) (tCons (tName 1) tNil))) tNil))))
  tSkip)
  (tSeq (tSet 10 (tCall cx 2 338 (tCons (tTup (tCons (tBin kMul (tName 7) (tSub (tName 2) (tInt 0))) (tCons (tBin kAdd (tName 8) (tSub (tName 2) (tInt 1))) tNil))) (tCons (tName 3) tNil))))
  tSkip))
  tSkip))
  tSkip))
  tSkip))
  tSkip))
  tSkip))
  tSkip))
  tSkip))
  tSkip))
  tSkip)) R ρ σ P) : q_l_plain_6 cx ρ σ P := h _ rfl
def q_l_plain_5 (cx : Cx) : Tx := tSeq (tIf (tTest (tBin kEq (tName 0) (tInt 16))) (tSeq (tSet 9 (tBin kSub (tBin kMod (tName 4) (tInt 2001)) (tInt 1000)))
  (tSeq (tRet (tCall cx 2 324 (tCons (tIfE (tTest (tBin kGt (tName 7) (tInt 0))) (tName 9) (tNeg (tName 9))) (tCons (tB kAbs (tCons (tName 7) tNil)) (tCons (tNeg (tName 8)) (tCons (tName 5) (tCons (tName 6) tNil)))))))
  tSkip))
  tSkip)
  (q_l_plain_6 cx)
theorem s_l_plain_5 {ρ σ P} (h : ∀ R : Tx, R = q_l_plain_6 cx → tSeq (tIf (tTest (tBin kEq (tName 0) (tInt 16))) (tSeq (tSet 9 (tBin kSub (tBin kMod (tName 4) (tInt 2001)) (tInt 1000)))
  (tSeq (tRet (tCall cx 2 324 (tCons (tIfE (tTest (tBin kGt (tName 7) (tInt 0))) (tName 9) (tNeg (tName 9))) (tCons (tB kAbs (tCons (tName 7) tNil)) (tCons (tNeg (tName 8)) (tCons (tName 5) (tCons (tName 6) tNil)))))))
  tSkip))
  tSkip) R ρ σ P) : q_l_plain_5 cx ρ σ P := h _ rfl
def q_l_plain_4 (cx : Cx) : Tx := tSeq (tIf (tTest (tBin kEq (tName 0) (tInt 9))) (tSeq (tRet (tCall cx 2 331 (tCons (tName 7) (tCons (tName 8) (tCons (tName 5) (tCons (tName 6) tNil))))))
  tSkip)
  tSkip)
  (q_l_plain_5 cx)
theorem s_l_plain_4 {ρ σ P} (h : ∀ R : Tx, R = q_l_plain_5 cx → tSeq (tIf (tTest (tBin kEq (tName 0) (tInt 9))) (tSeq (tRet (tCall cx 2 331 (tCons (tName 7) (tCons (tName 8) (tCons (tName 5) (tCons (tName 6) tNil))))))
  tSkip)
  tSkip) R ρ σ P) : q_l_plain_4 cx ρ σ P := h _ rfl
def q_l_plain_3 (cx : Cx) : Tx := tSeq (tIf (tTest (tBin kEq (tName 0) (tInt 3))) (tSeq (tRet (tCall cx 2 324 (tCons (tIfE (tTest (tBin kGt (tSub (tName 2) (tInt 0)) (tInt 0))) (tName 7) (tNeg (tName 7))) (tCons (tB kAbs (tCons (tSub (tName 2) (tInt 0)) tNil)) (tCons (tBin kSub (tName 8) (tSub (tName 2) (tInt 1))) (tCons (tName 5) (tCons (tName 6) tNil)))))))
  tSkip)
  tSkip)
  (q_l_plain_4 cx)
theorem s_l_plain_3 {ρ σ P} (h : ∀ R : Tx, R = q_l_plain_4 cx → tSeq (tIf (tTest (tBin kEq (tName 0) (tInt 3))) (tSeq (tRet (tCall cx 2 324 (tCons (tIfE (tTest (tBin kGt (tSub (tName 2) (tInt 0)) (tInt 0))) (tName 7) (tNeg (tName 7))) (tCons (tB kAbs (tCons (tSub (tName 2) (tInt 0)) tNil)) (tCons (tBin kSub (tName 8) (tSub (tName 2) (tInt 1))) (tCons (tName 5) (tCons (tName 6) tNil)))))))
  tSkip)
  tSkip) R ρ σ P) : q_l_plain_3 cx ρ σ P := h _ rfl
def q_l_plain_2 (cx : Cx) : Tx := tSeq (tIf (tAndT (tTest (tBin kEq (tName 0) (tInt 9))) (tAndT (tTest (tBin kLt (tName 7) (tInt 0))) tTrue)) (tSeq (tRet (tStr (Str.ofString "no root")))
  tSkip)
  tSkip)
  (q_l_plain_3 cx)
theorem s_l_plain_2 {ρ σ P} (h : ∀ R : Tx, R = q_l_plain_3 cx → tSeq (tIf (tAndT (tTest (tBin kEq (tName 0) (tInt 9))) (tAndT (tTest (tBin kLt (tName 7) (tInt 0))) tTrue)) (tSeq (tRet (tStr (Str.ofString "no root")))
  tSkip)
  tSkip) R ρ σ P) : q_l_plain_2 cx ρ σ P := h _ rfl
def q_l_plain_1 (cx : Cx) : Tx := tSeq (tIf (tOrT (tAndT (tTest (tBin kEq (tName 0) (tInt 3))) (tAndT (tTest (tBin kEq (tSub (tName 2) (tInt 0)) (tInt 0))) tTrue)) (tOrT (tAndT (tTest (tBin kEq (tName 0) (tInt 16))) (tAndT (tTest (tBin kEq (tName 7) (tInt 0))) tTrue)) tFalse)) (tSeq (tRet (tStr (Str.ofString "over nothing")))
  tSkip)
  tSkip)
  (q_l_plain_2 cx)
theorem s_l_plain_1 {ρ σ P} (h : ∀ R : Tx, R = q_l_plain_2 cx → tSeq (tIf (tOrT (tAndT (tTest (tBin kEq (tName 0) (tInt 3))) (tAndT (tTest (tBin kEq (tSub (tName 2) (tInt 0)) (tInt 0))) tTrue)) (tOrT (tAndT (tTest (tBin kEq (tName 0) (tInt 16))) (tAndT (tTest (tBin kEq (tName 7) (tInt 0))) tTrue)) tFalse)) (tSeq (tRet (tStr (Str.ofString "over nothing")))
  tSkip)
  tSkip) R ρ σ P) : q_l_plain_1 cx ρ σ P := h _ rfl
def q_l_plain (cx : Cx) : Tx := tSeq (tUnpack [7, 8] (tName 1))
  (q_l_plain_1 cx)
theorem s_l_plain {ρ σ P} (h : ∀ R : Tx, R = q_l_plain_1 cx → tSeq (tUnpack [7, 8] (tName 1)) R ρ σ P) : q_l_plain cx ρ σ P := h _ rfl
abbrev ns_l_plain : List Str := [Str.ofString "kind", Str.ofString "v", Str.ofString "w", Str.ofString "u", Str.ofString "n", Str.ofString "bits", Str.ofString "way", Str.ofString "m", Str.ofString "e", Str.ofString "c", Str.ofString "x", Str.ofString "base", Str.ofString "a", Str.ofString "b"]
theorem w_l_plain (hK : KK cx) {args : List PyData} {out : Except Exn PyData} (hl : args.length = 7) (hvc : q_l_plain cx (valSlots (args ++ []) 7) [] (callPost out)) : CallOK cx 352 2 args out := by
  refine call_ok (n := 7) (dfl := []) (tx := q_l_plain cx) [Str.ofString "kind", Str.ofString "v", Str.ofString "w", Str.ofString "u", Str.ofString "n", Str.ofString "bits", Str.ofString "way"] ns_l_plain [] hK rfl (by kernel_rfl) (fun us s hu hk => ?_) (fun _ _ _ _ => Rds.nil) (by rw [List.length_append, hl]; rfl) (fun i x h => ?_) (by decide +kernel) (by decide +kernel) rfl rfl rfl (by decide) (fun fc hcs hrk => ?_) hvc
  · rw [hl] at hu
    obtain ⟨u0, u1, u2, u3, u4, u5, u6, rfl⟩ := len_7 hu
    exact BindsTo.of_eq rfl
  · exact nth_sub (by decide +kernel) h
  · have l_abs : fc.cs.names.lookup (Str.ofString "abs") = some .globalImplicit := by rw [hcs]; rfl
    have l_law_round : fc.cs.names.lookup (Str.ofString "_law_round") = some .globalImplicit := by rw [hcs]; rfl
    have l_law_root : fc.cs.names.lookup (Str.ofString "_law_root") = some .globalImplicit := by rw [hcs]; rfl
    have l_law_plus : fc.cs.names.lookup (Str.ofString "_law_plus") = some .globalImplicit := by rw [hcs]; rfl
    have l_min : fc.cs.names.lookup (Str.ofString "min") = some .globalImplicit := by rw [hcs]; rfl
    have l_law_whole : fc.cs.names.lookup (Str.ofString "_law_whole") = some .globalImplicit := by rw [hcs]; rfl
    exact (SX_cons (SX_unpack (xs := [Str.ofString "m", Str.ofString "e"]) (SE_name (i := 1) rfl) rfl (NameElts.cons (NameElts.cons NameElts.nil)) rfl rfl)
  (SX_cons (SX_if (ST_bool (STs_or_cons (ST_bool (STs_and_cons (ST_cmp c_eq (SE_name (i := 0) rfl) SE_int rfl) (STs_and_cons (ST_cmp c_eq (SE_sub (SE_name (i := 2) rfl) SE_int (fun _ _ => rfl)) SE_int rfl) STs_and_nil))) (STs_or_cons (ST_bool (STs_and_cons (ST_cmp c_eq (SE_name (i := 0) rfl) SE_int rfl) (STs_and_cons (ST_cmp c_eq (SE_name (i := 7) rfl) SE_int rfl) STs_and_nil))) STs_or_nil))) (SX_cons (SX_ret SE_str)
  SX_nil)
  SX_nil)
  (SX_cons (SX_if (ST_bool (STs_and_cons (ST_cmp c_eq (SE_name (i := 0) rfl) SE_int rfl) (STs_and_cons (ST_cmp c_lt (SE_name (i := 7) rfl) SE_int rfl) STs_and_nil))) (SX_cons (SX_ret SE_str)
  SX_nil)
  SX_nil)
  (SX_cons (SX_if (ST_cmp c_eq (SE_name (i := 0) rfl) SE_int rfl) (SX_cons (SX_ret (SE_callR (n := 2) l_law_round (g_l_round hK) hK rfl hrk (SEs_cons (SE_if (ST_cmp c_gt (SE_sub (SE_name (i := 2) rfl) SE_int (fun _ _ => rfl)) SE_int rfl) (SE_name (i := 7) rfl) (SE_neg (SE_name (i := 7) rfl))) (SEs_cons (SE_bcall l_abs (n_abs hK) Boot.«abs» bc_abs (SEs_cons (SE_sub (SE_name (i := 2) rfl) SE_int (fun _ _ => rfl)) SEs_nil)) (SEs_cons (SE_bin b_sub (SE_name (i := 8) rfl) (SE_sub (SE_name (i := 2) rfl) SE_int (fun _ _ => rfl))) (SEs_cons (SE_name (i := 5) rfl) (SEs_cons (SE_name (i := 6) rfl) SEs_nil)))))))
  SX_nil)
  SX_nil)
  (SX_cons (SX_if (ST_cmp c_eq (SE_name (i := 0) rfl) SE_int rfl) (SX_cons (SX_ret (SE_callR (n := 2) l_law_root (g_l_root hK) hK rfl hrk (SEs_cons (SE_name (i := 7) rfl) (SEs_cons (SE_name (i := 8) rfl) (SEs_cons (SE_name (i := 5) rfl) (SEs_cons (SE_name (i := 6) rfl) SEs_nil))))))
  SX_nil)
  SX_nil)
  (SX_cons (SX_if (ST_cmp c_eq (SE_name (i := 0) rfl) SE_int rfl) (SX_cons (SX_set (i := 9) rfl (SE_bin b_sub (SE_bin b_mod (SE_name (i := 4) rfl) SE_int) SE_int))
  (SX_cons (SX_ret (SE_callR (n := 2) l_law_round (g_l_round hK) hK rfl hrk (SEs_cons (SE_if (ST_cmp c_gt (SE_name (i := 7) rfl) SE_int rfl) (SE_name (i := 9) rfl) (SE_neg (SE_name (i := 9) rfl))) (SEs_cons (SE_bcall l_abs (n_abs hK) Boot.«abs» bc_abs (SEs_cons (SE_name (i := 7) rfl) SEs_nil)) (SEs_cons (SE_neg (SE_name (i := 8) rfl)) (SEs_cons (SE_name (i := 5) rfl) (SEs_cons (SE_name (i := 6) rfl) SEs_nil)))))))
  SX_nil))
  SX_nil)
  (SX_cons (SX_if (ST_cmp c_lt (SE_name (i := 0) rfl) SE_int rfl) (SX_cons (SX_set (i := 10) rfl (SE_callR (n := 2) l_law_plus (g_l_plus hK) hK rfl hrk (SEs_cons (SE_name (i := 1) rfl) (SEs_cons (SE_if (ST_cmp c_eq (SE_name (i := 0) rfl) SE_int rfl) (SE_name (i := 2) rfl) (SE_tup (SEs_cons (SE_neg (SE_sub (SE_name (i := 2) rfl) SE_int (fun _ _ => rfl))) (SEs_cons (SE_sub (SE_name (i := 2) rfl) SE_int (fun _ _ => rfl)) SEs_nil)))) SEs_nil))))
  SX_nil)
  (SX_cons (SX_if (ST_cmp c_eq (SE_name (i := 0) rfl) SE_int rfl) (SX_cons (SX_set (i := 10) rfl (SE_tup (SEs_cons (SE_bin b_mul (SE_name (i := 7) rfl) (SE_sub (SE_name (i := 2) rfl) SE_int (fun _ _ => rfl))) (SEs_cons (SE_bin b_add (SE_name (i := 8) rfl) (SE_sub (SE_name (i := 2) rfl) SE_int (fun _ _ => rfl))) SEs_nil))))
  SX_nil)
  (SX_cons (SX_if (ST_cmp c_eq (SE_name (i := 0) rfl) SE_int rfl) (SX_cons (SX_set (i := 11) rfl (SE_bcall l_min (n_min hK) Boot.«min» bc_min (SEs_cons (SE_name (i := 8) rfl) (SEs_cons (SE_sub (SE_name (i := 2) rfl) SE_int (fun _ _ => rfl)) SEs_nil))))
  (SX_cons (SX_set (i := 12) rfl (SE_bin b_shl (SE_name (i := 7) rfl) (SE_bin b_sub (SE_name (i := 8) rfl) (SE_name (i := 11) rfl))))
  (SX_cons (SX_set (i := 13) rfl (SE_bin b_shl (SE_sub (SE_name (i := 2) rfl) SE_int (fun _ _ => rfl)) (SE_bin b_sub (SE_sub (SE_name (i := 2) rfl) SE_int (fun _ _ => rfl)) (SE_name (i := 11) rfl))))
  (SX_cons (SX_set (i := 10) rfl (SE_tup (SEs_cons (SE_bin b_sub (SE_name (i := 12) rfl) (SE_bin b_mul (SE_name (i := 13) rfl) (SE_bin b_div (SE_name (i := 12) rfl) (SE_name (i := 13) rfl)))) (SEs_cons (SE_name (i := 11) rfl) SEs_nil))))
  SX_nil))))
  (SX_cons (SX_if (ST_cmp c_lt (SE_name (i := 0) rfl) SE_int rfl) (SX_cons (SX_set (i := 5) rfl (SE_bin b_add SE_int (SE_bin b_mod (SE_name (i := 4) rfl) (SE_name (i := 5) rfl))))
  (SX_cons (SX_set (i := 10) rfl (SE_tup (SEs_cons (SE_if (ST_cmp c_eq (SE_name (i := 0) rfl) SE_int rfl) (SE_neg (SE_name (i := 7) rfl)) (SE_if (ST_cmp c_eq (SE_name (i := 0) rfl) SE_int rfl) (SE_bcall l_abs (n_abs hK) Boot.«abs» bc_abs (SEs_cons (SE_name (i := 7) rfl) SEs_nil)) (SE_name (i := 7) rfl))) (SEs_cons (SE_name (i := 8) rfl) SEs_nil))))
  SX_nil))
  (SX_cons (SX_if (ST_cmp c_eq (SE_name (i := 0) rfl) SE_int rfl) (SX_cons (SX_set (i := 10) rfl (SE_tup (SEs_cons (SE_name (i := 7) rfl) (SEs_cons (SE_bin b_sub (SE_bin b_add (SE_name (i := 8) rfl) (SE_bin b_mod (SE_name (i := 4) rfl) SE_int)) SE_int) SEs_nil))))
  SX_nil)
  (SX_cons (SX_if (ST_cmp c_eq (SE_name (i := 0) rfl) SE_int rfl) (SX_cons (SX_set (i := 10) rfl (SE_callR (n := 2) l_law_plus (g_l_plus hK) hK rfl hrk (SEs_cons (SE_name (i := 1) rfl) (SEs_cons (SE_tup (SEs_cons (SE_neg (SE_callR (n := 2) l_law_whole (g_l_whole hK) hK rfl hrk (SEs_cons (SE_name (i := 1) rfl) (SEs_cons SE_int SEs_nil)))) (SEs_cons SE_int SEs_nil))) SEs_nil))))
  SX_nil)
  (SX_cons (SX_if (ST_cmp c_lt (SE_name (i := 0) rfl) SE_int rfl) (SX_cons (SX_set (i := 10) rfl (SE_tup (SEs_cons (SE_callR (n := 2) l_law_whole (g_l_whole hK) hK rfl hrk (SEs_cons (SE_name (i := 1) rfl) (SEs_cons (SE_name (i := 0) rfl) SEs_nil))) (SEs_cons SE_int SEs_nil))))
  SX_nil)
  (SX_cons (SX_if (ST_cmp c_eq (SE_name (i := 0) rfl) SE_int rfl) (SX_cons (SX_set (i := 10) rfl (SE_tup (SEs_cons (SE_bin b_pow (SE_name (i := 7) rfl) (SE_bin b_mod (SE_name (i := 4) rfl) SE_int)) (SEs_cons (SE_bin b_mul (SE_name (i := 8) rfl) (SE_bin b_mod (SE_name (i := 4) rfl) SE_int)) SEs_nil))))
  SX_nil)
  (SX_cons (SX_if (ST_cmp c_eq (SE_name (i := 0) rfl) SE_int rfl) (SX_cons (SX_set (i := 10) rfl (SE_tup (SEs_cons (SE_bin b_mul (SE_name (i := 7) rfl) (SE_bin b_sub (SE_bin b_mod (SE_name (i := 4) rfl) SE_int) SE_int)) (SEs_cons (SE_name (i := 8) rfl) SEs_nil))))
  SX_nil)
  (SX_cons (SX_if (ST_cmp c_eq (SE_name (i := 0) rfl) SE_int rfl) (SX_cons (SX_set (i := 10) rfl (SE_callR (n := 2) l_law_plus (g_l_plus hK) hK rfl hrk (SEs_cons (SE_callR (n := 2) l_law_plus (g_l_plus hK) hK rfl hrk (SEs_cons (SE_name (i := 1) rfl) (SEs_cons (SE_name (i := 2) rfl) SEs_nil))) (SEs_cons (SE_callR (n := 2) l_law_plus (g_l_plus hK) hK rfl hrk (SEs_cons (SE_name (i := 3) rfl) (SEs_cons (SE_name (i := 1) rfl) SEs_nil))) SEs_nil))))
  SX_nil)
  (SX_cons (SX_set (i := 10) rfl (SE_callR (n := 2) l_law_plus (g_l_plus hK) hK rfl hrk (SEs_cons (SE_tup (SEs_cons (SE_bin b_mul (SE_name (i := 7) rfl) (SE_sub (SE_name (i := 2) rfl) SE_int (fun _ _ => rfl))) (SEs_cons (SE_bin b_add (SE_name (i := 8) rfl) (SE_sub (SE_name (i := 2) rfl) SE_int (fun _ _ => rfl))) SEs_nil))) (SEs_cons (SE_name (i := 3) rfl) SEs_nil))))
  SX_nil))
  SX_nil))
  SX_nil))
  SX_nil))
  SX_nil))
  SX_nil))
  SX_nil))
  SX_nil))
  SX_nil))
  SX_nil))
  (SX_cons (SX_ret (SE_callR (n := 2) l_law_round (g_l_round hK) hK rfl hrk (SEs_cons (SE_sub (SE_name (i := 10) rfl) SE_int (fun _ _ => rfl)) (SEs_cons SE_int (SEs_cons (SE_sub (SE_name (i := 10) rfl) SE_int (fun _ _ => rfl)) (SEs_cons (SE_name (i := 5) rfl) (SEs_cons (SE_name (i := 6) rfl) SEs_nil)))))))
  SX_nil))))))))

def q_l_pack_19 (cx : Cx) : Tx := tSeq (tRet (tCall cx 7 199 (tCons (tCall cx 7 230 (tCons (tCall cx 7 254 (tCons (tName 1) (tCons (tName 2) tNil))) (tCons (tName 3) tNil))) (tCons (tName 5) (tCons (tName 6) tNil)))))
  tSkip
def q_l_pack_18 (cx : Cx) : Tx := tSeq (tIf (tTest (tBin kEq (tName 0) (tInt 17))) (tSeq (tRet (tCall cx 7 199 (tCons (tCall cx 7 246 (tCons (tList (tCons (tName 1) (tCons (tName 2) (tCons (tName 3) (tCons (tName 1) tNil))))) tNil)) (tCons (tName 5) (tCons (tName 6) tNil)))))
  tSkip)
  tSkip)
  (q_l_pack_19 cx)
theorem s_l_pack_18 {ρ σ P} (h : ∀ R : Tx, R = q_l_pack_19 cx → tSeq (tIf (tTest (tBin kEq (tName 0) (tInt 17))) (tSeq (tRet (tCall cx 7 199 (tCons (tCall cx 7 246 (tCons (tList (tCons (tName 1) (tCons (tName 2) (tCons (tName 3) (tCons (tName 1) tNil))))) tNil)) (tCons (tName 5) (tCons (tName 6) tNil)))))
  tSkip)
  tSkip) R ρ σ P) : q_l_pack_18 cx ρ σ P := h _ rfl
def q_l_pack_17 (cx : Cx) : Tx := tSeq (tIf (tTest (tBin kEq (tName 0) (tInt 16))) (tSeq (tRet (tCall cx 7 292 (tCons (tBin kSub (tBin kMod (tName 4) (tInt 2001)) (tInt 1000)) (tCons (tName 1) (tCons (tName 5) (tCons (tName 6) tNil))))))
  tSkip)
  tSkip)
  (q_l_pack_18 cx)
theorem s_l_pack_17 {ρ σ P} (h : ∀ R : Tx, R = q_l_pack_18 cx → tSeq (tIf (tTest (tBin kEq (tName 0) (tInt 16))) (tSeq (tRet (tCall cx 7 292 (tCons (tBin kSub (tBin kMod (tName 4) (tInt 2001)) (tInt 1000)) (tCons (tName 1) (tCons (tName 5) (tCons (tName 6) tNil))))))
  tSkip)
  tSkip) R ρ σ P) : q_l_pack_17 cx ρ σ P := h _ rfl
def q_l_pack_16 (cx : Cx) : Tx := tSeq (tIf (tTest (tBin kEq (tName 0) (tInt 15))) (tSeq (tRet (tCall cx 7 262 (tCons (tName 1) (tCons (tBin kSub (tBin kMod (tName 4) (tInt 2001)) (tInt 1000)) (tCons (tName 5) (tCons (tName 6) tNil))))))
  tSkip)
  tSkip)
  (q_l_pack_17 cx)
theorem s_l_pack_16 {ρ σ P} (h : ∀ R : Tx, R = q_l_pack_17 cx → tSeq (tIf (tTest (tBin kEq (tName 0) (tInt 15))) (tSeq (tRet (tCall cx 7 262 (tCons (tName 1) (tCons (tBin kSub (tBin kMod (tName 4) (tInt 2001)) (tInt 1000)) (tCons (tName 5) (tCons (tName 6) tNil))))))
  tSkip)
  tSkip) R ρ σ P) : q_l_pack_16 cx ρ σ P := h _ rfl
def q_l_pack_15 (cx : Cx) : Tx := tSeq (tIf (tTest (tBin kEq (tName 0) (tInt 14))) (tSeq (tRet (tCall cx 7 309 (tCons (tName 1) (tCons (tBin kMod (tName 4) (tInt 6)) (tCons (tName 5) (tCons (tName 6) tNil))))))
  tSkip)
  tSkip)
  (q_l_pack_16 cx)
theorem s_l_pack_15 {ρ σ P} (h : ∀ R : Tx, R = q_l_pack_16 cx → tSeq (tIf (tTest (tBin kEq (tName 0) (tInt 14))) (tSeq (tRet (tCall cx 7 309 (tCons (tName 1) (tCons (tBin kMod (tName 4) (tInt 6)) (tCons (tName 5) (tCons (tName 6) tNil))))))
  tSkip)
  tSkip) R ρ σ P) : q_l_pack_15 cx ρ σ P := h _ rfl
def q_l_pack_14 (cx : Cx) : Tx := tSeq (tIf (tTest (tBin kEq (tName 0) (tInt 13))) (tSeq (tRet (tCall cx 7 127 (tCons (tName 1) (tCons (tName 5) (tCons (tName 6) tNil)))))
  tSkip)
  tSkip)
  (q_l_pack_15 cx)
theorem s_l_pack_14 {ρ σ P} (h : ∀ R : Tx, R = q_l_pack_15 cx → tSeq (tIf (tTest (tBin kEq (tName 0) (tInt 13))) (tSeq (tRet (tCall cx 7 127 (tCons (tName 1) (tCons (tName 5) (tCons (tName 6) tNil)))))
  tSkip)
  tSkip) R ρ σ P) : q_l_pack_14 cx ρ σ P := h _ rfl
def q_l_pack_13 (cx : Cx) : Tx := tSeq (tIf (tTest (tBin kEq (tName 0) (tInt 12))) (tSeq (tRet (tCall cx 7 119 (tCons (tName 1) (tCons (tName 5) (tCons (tName 6) tNil)))))
  tSkip)
  tSkip)
  (q_l_pack_14 cx)
theorem s_l_pack_13 {ρ σ P} (h : ∀ R : Tx, R = q_l_pack_14 cx → tSeq (tIf (tTest (tBin kEq (tName 0) (tInt 12))) (tSeq (tRet (tCall cx 7 119 (tCons (tName 1) (tCons (tName 5) (tCons (tName 6) tNil)))))
  tSkip)
  tSkip) R ρ σ P) : q_l_pack_13 cx ρ σ P := h _ rfl
def q_l_pack_12 (cx : Cx) : Tx := tSeq (tIf (tTest (tBin kEq (tName 0) (tInt 11))) (tSeq (tRet (tCall cx 7 111 (tCons (tName 1) (tCons (tName 5) (tCons (tName 6) tNil)))))
  tSkip)
  tSkip)
  (q_l_pack_13 cx)
theorem s_l_pack_12 {ρ σ P} (h : ∀ R : Tx, R = q_l_pack_13 cx → tSeq (tIf (tTest (tBin kEq (tName 0) (tInt 11))) (tSeq (tRet (tCall cx 7 111 (tCons (tName 1) (tCons (tName 5) (tCons (tName 6) tNil)))))
  tSkip)
  tSkip) R ρ σ P) : q_l_pack_12 cx ρ σ P := h _ rfl
def q_l_pack_11 (cx : Cx) : Tx := tSeq (tIf (tTest (tBin kEq (tName 0) (tInt 10))) (tSeq (tRet (tCall cx 7 135 (tCons (tName 1) (tCons (tName 5) (tCons (tName 6) tNil)))))
  tSkip)
  tSkip)
  (q_l_pack_12 cx)
theorem s_l_pack_11 {ρ σ P} (h : ∀ R : Tx, R = q_l_pack_12 cx → tSeq (tIf (tTest (tBin kEq (tName 0) (tInt 10))) (tSeq (tRet (tCall cx 7 135 (tCons (tName 1) (tCons (tName 5) (tCons (tName 6) tNil)))))
  tSkip)
  tSkip) R ρ σ P) : q_l_pack_11 cx ρ σ P := h _ rfl
def q_l_pack_10 (cx : Cx) : Tx := tSeq (tIf (tTest (tBin kEq (tName 0) (tInt 9))) (tSeq (tRet (tCall cx 7 317 (tCons (tName 1) (tCons (tName 5) (tCons (tName 6) tNil)))))
  tSkip)
  tSkip)
  (q_l_pack_11 cx)
theorem s_l_pack_10 {ρ σ P} (h : ∀ R : Tx, R = q_l_pack_11 cx → tSeq (tIf (tTest (tBin kEq (tName 0) (tInt 9))) (tSeq (tRet (tCall cx 7 317 (tCons (tName 1) (tCons (tName 5) (tCons (tName 6) tNil)))))
  tSkip)
  tSkip) R ρ σ P) : q_l_pack_10 cx ρ σ P := h _ rfl
def q_l_pack_9 (cx : Cx) : Tx := tSeq (tIf (tTest (tBin kEq (tName 0) (tInt 8))) (tSeq (tRet (tCall cx 7 269 (tCons (tName 1) (tCons (tBin kSub (tBin kMod (tName 4) (tInt 21)) (tInt 10)) tNil))))
  tSkip)
  tSkip)
  (q_l_pack_10 cx)
theorem s_l_pack_9 {ρ σ P} (h : ∀ R : Tx, R = q_l_pack_10 cx → tSeq (tIf (tTest (tBin kEq (tName 0) (tInt 8))) (tSeq (tRet (tCall cx 7 269 (tCons (tName 1) (tCons (tBin kSub (tBin kMod (tName 4) (tInt 21)) (tInt 10)) tNil))))
  tSkip)
  tSkip) R ρ σ P) : q_l_pack_9 cx ρ σ P := h _ rfl
def q_l_pack_8 (cx : Cx) : Tx := tSeq (tIf (tTest (tBin kEq (tName 0) (tInt 7))) (tSeq (tRet (tCall cx 7 199 (tCons (tName 1) (tCons (tName 7) (tCons (tName 6) tNil)))))
  tSkip)
  tSkip)
  (q_l_pack_9 cx)
theorem s_l_pack_8 {ρ σ P} (h : ∀ R : Tx, R = q_l_pack_9 cx → tSeq (tIf (tTest (tBin kEq (tName 0) (tInt 7))) (tSeq (tRet (tCall cx 7 199 (tCons (tName 1) (tCons (tName 7) (tCons (tName 6) tNil)))))
  tSkip)
  tSkip) R ρ σ P) : q_l_pack_8 cx ρ σ P := h _ rfl
def q_l_pack_7 (cx : Cx) : Tx := tSeq (tIf (tTest (tBin kEq (tName 0) (tInt 6))) (tSeq (tRet (tCall cx 7 215 (tCons (tName 1) (tCons (tName 7) (tCons (tName 6) tNil)))))
  tSkip)
  tSkip)
  (q_l_pack_8 cx)
theorem s_l_pack_7 {ρ σ P} (h : ∀ R : Tx, R = q_l_pack_8 cx → tSeq (tIf (tTest (tBin kEq (tName 0) (tInt 6))) (tSeq (tRet (tCall cx 7 215 (tCons (tName 1) (tCons (tName 7) (tCons (tName 6) tNil)))))
  tSkip)
  tSkip) R ρ σ P) : q_l_pack_7 cx ρ σ P := h _ rfl
def q_l_pack_6 (cx : Cx) : Tx := tSeq (tIf (tTest (tBin kEq (tName 0) (tInt 5))) (tSeq (tRet (tCall cx 7 207 (tCons (tName 1) (tCons (tName 7) (tCons (tName 6) tNil)))))
  tSkip)
  tSkip)
  (q_l_pack_7 cx)
theorem s_l_pack_6 {ρ σ P} (h : ∀ R : Tx, R = q_l_pack_7 cx → tSeq (tIf (tTest (tBin kEq (tName 0) (tInt 5))) (tSeq (tRet (tCall cx 7 207 (tCons (tName 1) (tCons (tName 7) (tCons (tName 6) tNil)))))
  tSkip)
  tSkip) R ρ σ P) : q_l_pack_6 cx ρ σ P := h _ rfl
def q_l_pack_5 (cx : Cx) : Tx := tSeq (tIf (tTest (tBin kEq (tName 0) (tInt 4))) (tSeq (tRet (tCall cx 7 300 (tCons (tName 1) (tCons (tName 2) (tCons (tName 5) (tCons (tName 6) tNil))))))
  tSkip)
  tSkip)
  (q_l_pack_6 cx)
theorem s_l_pack_5 {ρ σ P} (h : ∀ R : Tx, R = q_l_pack_6 cx → tSeq (tIf (tTest (tBin kEq (tName 0) (tInt 4))) (tSeq (tRet (tCall cx 7 300 (tCons (tName 1) (tCons (tName 2) (tCons (tName 5) (tCons (tName 6) tNil))))))
  tSkip)
  tSkip) R ρ σ P) : q_l_pack_5 cx ρ σ P := h _ rfl
def q_l_pack_4 (cx : Cx) : Tx := tSeq (tIf (tTest (tBin kEq (tName 0) (tInt 3))) (tSeq (tRet (tCall cx 7 284 (tCons (tName 1) (tCons (tName 2) (tCons (tName 5) (tCons (tName 6) tNil))))))
  tSkip)
  tSkip)
  (q_l_pack_5 cx)
theorem s_l_pack_4 {ρ σ P} (h : ∀ R : Tx, R = q_l_pack_5 cx → tSeq (tIf (tTest (tBin kEq (tName 0) (tInt 3))) (tSeq (tRet (tCall cx 7 284 (tCons (tName 1) (tCons (tName 2) (tCons (tName 5) (tCons (tName 6) tNil))))))
  tSkip)
  tSkip) R ρ σ P) : q_l_pack_4 cx ρ σ P := h _ rfl
def q_l_pack_3 (cx : Cx) : Tx := tSeq (tIf (tTest (tBin kEq (tName 0) (tInt 2))) (tSeq (tRet (tCall cx 7 254 (tCons (tName 1) (tCons (tName 2) (tCons (tName 5) (tCons (tName 6) tNil))))))
  tSkip)
  tSkip)
  (q_l_pack_4 cx)
theorem s_l_pack_3 {ρ σ P} (h : ∀ R : Tx, R = q_l_pack_4 cx → tSeq (tIf (tTest (tBin kEq (tName 0) (tInt 2))) (tSeq (tRet (tCall cx 7 254 (tCons (tName 1) (tCons (tName 2) (tCons (tName 5) (tCons (tName 6) tNil))))))
  tSkip)
  tSkip) R ρ σ P) : q_l_pack_3 cx ρ σ P := h _ rfl
def q_l_pack_2 (cx : Cx) : Tx := tSeq (tIf (tTest (tBin kEq (tName 0) (tInt 1))) (tSeq (tRet (tCall cx 7 238 (tCons (tName 1) (tCons (tName 2) (tCons (tName 5) (tCons (tName 6) tNil))))))
  tSkip)
  tSkip)
  (q_l_pack_3 cx)
theorem s_l_pack_2 {ρ σ P} (h : ∀ R : Tx, R = q_l_pack_3 cx → tSeq (tIf (tTest (tBin kEq (tName 0) (tInt 1))) (tSeq (tRet (tCall cx 7 238 (tCons (tName 1) (tCons (tName 2) (tCons (tName 5) (tCons (tName 6) tNil))))))
  tSkip)
  tSkip) R ρ σ P) : q_l_pack_2 cx ρ σ P := h _ rfl
def q_l_pack_1 (cx : Cx) : Tx := tSeq (tIf (tTest (tBin kEq (tName 0) (tInt 0))) (tSeq (tRet (tCall cx 7 230 (tCons (tName 1) (tCons (tName 2) (tCons (tName 5) (tCons (tName 6) tNil))))))
  tSkip)
  tSkip)
  (q_l_pack_2 cx)
theorem s_l_pack_1 {ρ σ P} (h : ∀ R : Tx, R = q_l_pack_2 cx → tSeq (tIf (tTest (tBin kEq (tName 0) (tInt 0))) (tSeq (tRet (tCall cx 7 230 (tCons (tName 1) (tCons (tName 2) (tCons (tName 5) (tCons (tName 6) tNil))))))
  tSkip)
  tSkip) R ρ σ P) : q_l_pack_1 cx ρ σ P := h _ rfl
def q_l_pack (cx : Cx) : Tx := tSeq (tSet 7 (tBin kAdd (tInt 1) (tBin kMod (tName 4) (tName 5))))
  (q_l_pack_1 cx)
theorem s_l_pack {ρ σ P} (h : ∀ R : Tx, R = q_l_pack_1 cx → tSeq (tSet 7 (tBin kAdd (tInt 1) (tBin kMod (tName 4) (tName 5)))) R ρ σ P) : q_l_pack cx ρ σ P := h _ rfl
abbrev ns_l_pack : List Str := [Str.ofString "kind", Str.ofString "a", Str.ofString "b", Str.ofString "c", Str.ofString "n", Str.ofString "bits", Str.ofString "way", Str.ofString "few"]
theorem w_l_pack (hK : KK cx) {args : List PyData} {out : Except Exn PyData} (hl : args.length = 7) (hvc : q_l_pack cx (valSlots (args ++ []) 1) [] (callPost out)) : CallOK cx 359 7 args out := by
  refine call_ok (n := 1) (dfl := []) (tx := q_l_pack cx) [Str.ofString "kind", Str.ofString "a", Str.ofString "b", Str.ofString "c", Str.ofString "n", Str.ofString "bits", Str.ofString "way"] ns_l_pack [] hK rfl (by kernel_rfl) (fun us s hu hk => ?_) (fun _ _ _ _ => Rds.nil) (by rw [List.length_append, hl]; rfl) (fun i x h => ?_) (by decide +kernel) (by decide +kernel) rfl rfl rfl (by decide) (fun fc hcs hrk => ?_) hvc
  · rw [hl] at hu
    obtain ⟨u0, u1, u2, u3, u4, u5, u6, rfl⟩ := len_7 hu
    exact BindsTo.of_eq rfl
  · exact nth_sub (by decide +kernel) h
  · have l_mpf_add : fc.cs.names.lookup (Str.ofString "mpf_add") = some .globalImplicit := by rw [hcs]; rfl
    have l_mpf_sub : fc.cs.names.lookup (Str.ofString "mpf_sub") = some .globalImplicit := by rw [hcs]; rfl
    have l_mpf_mul : fc.cs.names.lookup (Str.ofString "mpf_mul") = some .globalImplicit := by rw [hcs]; rfl
    have l_mpf_div : fc.cs.names.lookup (Str.ofString "mpf_div") = some .globalImplicit := by rw [hcs]; rfl
    have l_mpf_mod : fc.cs.names.lookup (Str.ofString "mpf_mod") = some .globalImplicit := by rw [hcs]; rfl
    have l_mpf_neg : fc.cs.names.lookup (Str.ofString "mpf_neg") = some .globalImplicit := by rw [hcs]; rfl
    have l_mpf_abs : fc.cs.names.lookup (Str.ofString "mpf_abs") = some .globalImplicit := by rw [hcs]; rfl
    have l_mpf_pos : fc.cs.names.lookup (Str.ofString "mpf_pos") = some .globalImplicit := by rw [hcs]; rfl
    have l_mpf_shift : fc.cs.names.lookup (Str.ofString "mpf_shift") = some .globalImplicit := by rw [hcs]; rfl
    have l_mpf_sqrt : fc.cs.names.lookup (Str.ofString "mpf_sqrt") = some .globalImplicit := by rw [hcs]; rfl
    have l_mpf_frac : fc.cs.names.lookup (Str.ofString "mpf_frac") = some .globalImplicit := by rw [hcs]; rfl
    have l_mpf_floor : fc.cs.names.lookup (Str.ofString "mpf_floor") = some .globalImplicit := by rw [hcs]; rfl
    have l_mpf_ceil : fc.cs.names.lookup (Str.ofString "mpf_ceil") = some .globalImplicit := by rw [hcs]; rfl
    have l_mpf_nint : fc.cs.names.lookup (Str.ofString "mpf_nint") = some .globalImplicit := by rw [hcs]; rfl
    have l_mpf_pow_int : fc.cs.names.lookup (Str.ofString "mpf_pow_int") = some .globalImplicit := by rw [hcs]; rfl
    have l_mpf_mul_int : fc.cs.names.lookup (Str.ofString "mpf_mul_int") = some .globalImplicit := by rw [hcs]; rfl
    have l_mpf_rdiv_int : fc.cs.names.lookup (Str.ofString "mpf_rdiv_int") = some .globalImplicit := by rw [hcs]; rfl
    have l_mpf_sum : fc.cs.names.lookup (Str.ofString "mpf_sum") = some .globalImplicit := by rw [hcs]; rfl
    exact (SX_cons (SX_set (i := 7) rfl (SE_bin b_add SE_int (SE_bin b_mod (SE_name (i := 4) rfl) (SE_name (i := 5) rfl))))
  (SX_cons (SX_if (ST_cmp c_eq (SE_name (i := 0) rfl) SE_int rfl) (SX_cons (SX_ret (SE_callR (n := 7) l_mpf_add (g_mpf_add hK) hK rfl hrk (SEs_cons (SE_name (i := 1) rfl) (SEs_cons (SE_name (i := 2) rfl) (SEs_cons (SE_name (i := 5) rfl) (SEs_cons (SE_name (i := 6) rfl) SEs_nil))))))
  SX_nil)
  SX_nil)
  (SX_cons (SX_if (ST_cmp c_eq (SE_name (i := 0) rfl) SE_int rfl) (SX_cons (SX_ret (SE_callR (n := 7) l_mpf_sub (g_mpf_sub hK) hK rfl hrk (SEs_cons (SE_name (i := 1) rfl) (SEs_cons (SE_name (i := 2) rfl) (SEs_cons (SE_name (i := 5) rfl) (SEs_cons (SE_name (i := 6) rfl) SEs_nil))))))
  SX_nil)
  SX_nil)
  (SX_cons (SX_if (ST_cmp c_eq (SE_name (i := 0) rfl) SE_int rfl) (SX_cons (SX_ret (SE_callR (n := 7) l_mpf_mul (g_mpf_mul hK) hK rfl hrk (SEs_cons (SE_name (i := 1) rfl) (SEs_cons (SE_name (i := 2) rfl) (SEs_cons (SE_name (i := 5) rfl) (SEs_cons (SE_name (i := 6) rfl) SEs_nil))))))
  SX_nil)
  SX_nil)
  (SX_cons (SX_if (ST_cmp c_eq (SE_name (i := 0) rfl) SE_int rfl) (SX_cons (SX_ret (SE_callR (n := 7) l_mpf_div (g_mpf_div hK) hK rfl hrk (SEs_cons (SE_name (i := 1) rfl) (SEs_cons (SE_name (i := 2) rfl) (SEs_cons (SE_name (i := 5) rfl) (SEs_cons (SE_name (i := 6) rfl) SEs_nil))))))
  SX_nil)
  SX_nil)
  (SX_cons (SX_if (ST_cmp c_eq (SE_name (i := 0) rfl) SE_int rfl) (SX_cons (SX_ret (SE_callR (n := 7) l_mpf_mod (g_mpf_mod hK) hK rfl hrk (SEs_cons (SE_name (i := 1) rfl) (SEs_cons (SE_name (i := 2) rfl) (SEs_cons (SE_name (i := 5) rfl) (SEs_cons (SE_name (i := 6) rfl) SEs_nil))))))
  SX_nil)
  SX_nil)
  (SX_cons (SX_if (ST_cmp c_eq (SE_name (i := 0) rfl) SE_int rfl) (SX_cons (SX_ret (SE_callR (n := 7) l_mpf_neg (g_mpf_neg hK) hK rfl hrk (SEs_cons (SE_name (i := 1) rfl) (SEs_cons (SE_name (i := 7) rfl) (SEs_cons (SE_name (i := 6) rfl) SEs_nil)))))
  SX_nil)
  SX_nil)
  (SX_cons (SX_if (ST_cmp c_eq (SE_name (i := 0) rfl) SE_int rfl) (SX_cons (SX_ret (SE_callR (n := 7) l_mpf_abs (g_mpf_abs hK) hK rfl hrk (SEs_cons (SE_name (i := 1) rfl) (SEs_cons (SE_name (i := 7) rfl) (SEs_cons (SE_name (i := 6) rfl) SEs_nil)))))
  SX_nil)
  SX_nil)
  (SX_cons (SX_if (ST_cmp c_eq (SE_name (i := 0) rfl) SE_int rfl) (SX_cons (SX_ret (SE_callR (n := 7) l_mpf_pos (g_mpf_pos hK) hK rfl hrk (SEs_cons (SE_name (i := 1) rfl) (SEs_cons (SE_name (i := 7) rfl) (SEs_cons (SE_name (i := 6) rfl) SEs_nil)))))
  SX_nil)
  SX_nil)
  (SX_cons (SX_if (ST_cmp c_eq (SE_name (i := 0) rfl) SE_int rfl) (SX_cons (SX_ret (SE_callR (n := 7) l_mpf_shift (g_mpf_shift hK) hK rfl hrk (SEs_cons (SE_name (i := 1) rfl) (SEs_cons (SE_bin b_sub (SE_bin b_mod (SE_name (i := 4) rfl) SE_int) SE_int) SEs_nil))))
  SX_nil)
  SX_nil)
  (SX_cons (SX_if (ST_cmp c_eq (SE_name (i := 0) rfl) SE_int rfl) (SX_cons (SX_ret (SE_callR (n := 7) l_mpf_sqrt (g_mpf_sqrt hK) hK rfl hrk (SEs_cons (SE_name (i := 1) rfl) (SEs_cons (SE_name (i := 5) rfl) (SEs_cons (SE_name (i := 6) rfl) SEs_nil)))))
  SX_nil)
  SX_nil)
  (SX_cons (SX_if (ST_cmp c_eq (SE_name (i := 0) rfl) SE_int rfl) (SX_cons (SX_ret (SE_callR (n := 7) l_mpf_frac (g_mpf_frac hK) hK rfl hrk (SEs_cons (SE_name (i := 1) rfl) (SEs_cons (SE_name (i := 5) rfl) (SEs_cons (SE_name (i := 6) rfl) SEs_nil)))))
  SX_nil)
  SX_nil)
  (SX_cons (SX_if (ST_cmp c_eq (SE_name (i := 0) rfl) SE_int rfl) (SX_cons (SX_ret (SE_callR (n := 7) l_mpf_floor (g_mpf_floor hK) hK rfl hrk (SEs_cons (SE_name (i := 1) rfl) (SEs_cons (SE_name (i := 5) rfl) (SEs_cons (SE_name (i := 6) rfl) SEs_nil)))))
  SX_nil)
  SX_nil)
  (SX_cons (SX_if (ST_cmp c_eq (SE_name (i := 0) rfl) SE_int rfl) (SX_cons (SX_ret (SE_callR (n := 7) l_mpf_ceil (g_mpf_ceil hK) hK rfl hrk (SEs_cons (SE_name (i := 1) rfl) (SEs_cons (SE_name (i := 5) rfl) (SEs_cons (SE_name (i := 6) rfl) SEs_nil)))))
  SX_nil)
  SX_nil)
  (SX_cons (SX_if (ST_cmp c_eq (SE_name (i := 0) rfl) SE_int rfl) (SX_cons (SX_ret (SE_callR (n := 7) l_mpf_nint (g_mpf_nint hK) hK rfl hrk (SEs_cons (SE_name (i := 1) rfl) (SEs_cons (SE_name (i := 5) rfl) (SEs_cons (SE_name (i := 6) rfl) SEs_nil)))))
  SX_nil)
  SX_nil)
  (SX_cons (SX_if (ST_cmp c_eq (SE_name (i := 0) rfl) SE_int rfl) (SX_cons (SX_ret (SE_callR (n := 7) l_mpf_pow_int (g_mpf_pow_int hK) hK rfl hrk (SEs_cons (SE_name (i := 1) rfl) (SEs_cons (SE_bin b_mod (SE_name (i := 4) rfl) SE_int) (SEs_cons (SE_name (i := 5) rfl) (SEs_cons (SE_name (i := 6) rfl) SEs_nil))))))
  SX_nil)
  SX_nil)
  (SX_cons (SX_if (ST_cmp c_eq (SE_name (i := 0) rfl) SE_int rfl) (SX_cons (SX_ret (SE_callR (n := 7) l_mpf_mul_int (g_mpf_mul_int hK) hK rfl hrk (SEs_cons (SE_name (i := 1) rfl) (SEs_cons (SE_bin b_sub (SE_bin b_mod (SE_name (i := 4) rfl) SE_int) SE_int) (SEs_cons (SE_name (i := 5) rfl) (SEs_cons (SE_name (i := 6) rfl) SEs_nil))))))
  SX_nil)
  SX_nil)
  (SX_cons (SX_if (ST_cmp c_eq (SE_name (i := 0) rfl) SE_int rfl) (SX_cons (SX_ret (SE_callR (n := 7) l_mpf_rdiv_int (g_mpf_rdiv_int hK) hK rfl hrk (SEs_cons (SE_bin b_sub (SE_bin b_mod (SE_name (i := 4) rfl) SE_int) SE_int) (SEs_cons (SE_name (i := 1) rfl) (SEs_cons (SE_name (i := 5) rfl) (SEs_cons (SE_name (i := 6) rfl) SEs_nil))))))
  SX_nil)
  SX_nil)
  (SX_cons (SX_if (ST_cmp c_eq (SE_name (i := 0) rfl) SE_int rfl) (SX_cons (SX_ret (SE_callR (n := 7) l_mpf_pos (g_mpf_pos hK) hK rfl hrk (SEs_cons (SE_callR (n := 7) l_mpf_sum (g_mpf_sum hK) hK rfl hrk (SEs_cons (SE_list (SEs_cons (SE_name (i := 1) rfl) (SEs_cons (SE_name (i := 2) rfl) (SEs_cons (SE_name (i := 3) rfl) (SEs_cons (SE_name (i := 1) rfl) SEs_nil))))) SEs_nil)) (SEs_cons (SE_name (i := 5) rfl) (SEs_cons (SE_name (i := 6) rfl) SEs_nil)))))
  SX_nil)
  SX_nil)
  (SX_cons (SX_ret (SE_callR (n := 7) l_mpf_pos (g_mpf_pos hK) hK rfl hrk (SEs_cons (SE_callR (n := 7) l_mpf_add (g_mpf_add hK) hK rfl hrk (SEs_cons (SE_callR (n := 7) l_mpf_mul (g_mpf_mul hK) hK rfl hrk (SEs_cons (SE_name (i := 1) rfl) (SEs_cons (SE_name (i := 2) rfl) SEs_nil))) (SEs_cons (SE_name (i := 3) rfl) SEs_nil))) (SEs_cons (SE_name (i := 5) rfl) (SEs_cons (SE_name (i := 6) rfl) SEs_nil)))))
  SX_nil))))))))))))))))))))

end Mine

namespace Mine
open PySem PySem.W PySem.Calls PyProof.Rows PySem.Spec
variable {cx : Cx}
theorem callPost_rt {out d} : (callPost out).rt d = (out = .ok d) := rfl
theorem callPost_nx {out ρ σ} : (callPost out).nx ρ σ = (out = .ok .none) := rfl
theorem callPost_xx {out x ρ σ} : (callPost out).xx x ρ σ = (out = .error x) := rfl
theorem outQ_ok {d : PyData} {Q : PyData → Prop} {X : Exn → Prop} : outQ (.ok d) Q X = Q d := rfl
theorem outQ_err {x : Exn} {Q : PyData → Prop} {X : Exn → Prop} : outQ (.error x) Q X = X x := rfl
theorem ok_inj {a b : PyData} : ((Except.ok a : Except Exn PyData) = Except.ok b) = (a = b) := by simp
theorem err_inj {a b : Exn} : ((Except.error a : Except Exn PyData) = Except.error b) = (a = b) := by simp
local macro_rules | `(tactic| walk_at "vc") => `(tactic| simp only [tSeq, tSet, tIf, tRet, tSkip, tAug, tAssert, tBin, tTest, tName, tInt, tGlob, tStr, tBool, tNone, tTruth, tNotT, tTrue, tFalse, tAndT, tOrT, tIfE, tNeg, tNot, tOr, tAnd, tNil, tCons, tTup, tList, tSub, tDict, tBl, tB, tCall, tTypeIs, tIsInt, tUnpack, tUnpackR, tBrk, tCont, tRaise,
  slotQ, boolQ, truthQ, intQ, tupQ, listQ, strQ, subQ, idxQ, kI, kB, kAbs, kInt, kMin, kMax, kDivmod, setAll, outQ_ok, outQ_err, callPost_rt, callPost_nx, callPost_xx, turnP, kEq_int, kNe_int, kEq_n, kEq_f, kEq_c, kEq_u, kEq_p4, kNe_p4,
  List.getD_cons_zero, List.getD_cons_succ, List.set_cons_zero, List.set_cons_succ, valSlots, List.map_cons, List.map_nil, List.nil_append, List.cons_append, List.append_nil, List.replicate_succ, List.replicate_zero, List.length_cons, List.length_nil,
  true_and, and_true, bne_iff_ne, ne_eq, Bool.not_eq_true', Bool.not_eq_false', decide_eq_true_eq, decide_eq_false_iff_not, beq_iff_eq, beq_eq_false_iff_ne, bne_eq_false_iff_eq, Decidable.not_not, true_implies, Bool.true_eq_false, Bool.false_eq_true, false_implies, implies_true, reduceCtorEq, ok_inj, err_inj])
/-- trailing(n) -/
theorem trailing_ok (hK : KK cx) {n : Int} {m k : Nat} (hm : m % 2 = 1) (hn : n = m * 2 ^ k) : CallOK cx 21 0 [.int n] (.ok (.int k)) := by
  refine w_trailing hK rfl (s_trailing fun R hR => ?_)
  have h0 : n ≠ 0 := by
    rw [hn]; intro h
    rcases Int.mul_eq_zero.mp h with h | h
    · omega
    · exact absurd h (Int.ne_of_gt (Int.pow_pos (by decide)))
  walk_at "vc"
  refine ⟨fun h => absurd h h0, fun _ => ?_⟩
  rw [hR]; unfold q_trailing_1
  walk_at "vc"
  have e : n = 2 ^ k * (2 * ((m : Int) / 2) + 1) := by
    rw [hn, Int.mul_comm, show 2 * ((m : Int) / 2) + 1 = m by omega]
  rw [e, kbt_low, bl_pow]
  exact congrArg PyData.int (by omega)

/-! the inner rounding -/
def mk (m e : Int) : PyData := p4 (if m < 0 then 1 else 0) (m.natAbs : Nat) e (bl m : Nat)

theorem fdiv_nat (M N : Nat) : ((M : Nat) : Int).fdiv (2 ^ N) = ((M / 2 ^ N : Nat) : Int) := by
  rw [Int.fdiv_eq_ediv_of_nonneg _ (Int.le_of_lt (Int.pow_pos (by decide)))]
  norm_cast
theorem ceil_nat (M N : Nat) : -((-((M : Nat) : Int)).fdiv (2 ^ N)) = ((M / 2 ^ N + (decide (M % 2 ^ N ≠ 0)).toNat : Nat) : Int) := by
  rw [Int.fdiv_eq_ediv_of_nonneg _ (Int.le_of_lt (Int.pow_pos (by decide)))]
  have h1 := Nat.div_add_mod M (2 ^ N)
  have h2 := Nat.mod_lt M (two_pos N)
  have h3 : ((2 : Int) ^ N) = ((2 ^ N : Nat) : Int) := by norm_cast
  rw [h3]
  generalize 2 ^ N = X at *
  generalize M / X = q at *
  generalize M % X = r at *
  have hX : (0 : Int) < X := by omega
  by_cases hr : r = 0
  · subst hr
    have e : -(M : Int) = (X : Int) * (-(q : Int)) := by rw [← h1]; push_cast; grind
    rw [e, Int.mul_ediv_cancel_left _ (by omega)]; simp
  · have e : -(M : Int) = ((X : Int) - r) + (X : Int) * (-(q : Int) - 1) := by rw [← h1]; push_cast; grind
    rw [e, Int.add_mul_ediv_left _ _ (by omega), Int.ediv_eq_zero_of_lt (by omega) (by omega)]
    simp [hr]; omega

/-- behind the cut: zeros away -/
theorem norm0_tail (hK : KK cx) {sign exp bc prec : Int} {w : Way} {a b : Slot} {man m t : Nat} (hm : m % 2 = 1) (he : man = m * 2 ^ t) (hb : m = 1 ∨ bc = bl m + t) :
    q_norm0_3 cx [.val (.int sign), .val (.int man), .val (.int exp), .val (.int bc), .val (.int prec), .val (.str w.s), a, b] [] (callPost (.ok (p4 sign m (exp + t) (bl m)))) := by
  have last : ∀ {x y : Slot} {ex bc : Int}, ex = exp + t → (m = 1 ∨ bc = bl m) → q_norm0_4 cx [.val (.int sign), .val (.int m), .val (.int ex), .val (.int bc), .val (.int prec), .val (.str w.s), x, y] [] (callPost (.ok (p4 sign m (exp + t) (bl m)))) := by
    intro x y ex bc he hb
    subst he
    refine s_norm0_4 fun R hR => ?_
    walk_at "vc"
    refine ⟨fun h => ?_, fun h => ?_⟩
    · rw [hR]; unfold q_norm0_5; walk_at "vc"
      have : m = 1 := by omega
      subst this
      exact ⟨by decide, rfl⟩
    · rw [hR]; unfold q_norm0_5; walk_at "vc"
      rcases hb with hb | hb
      · omega
      · subst hb; exact ⟨by decide, rfl⟩
  refine s_norm0_3 fun R hR => ?_
  walk_at "vc"
  rw [bitAnd_m1]
  have h0 : man ≠ 0 := by
    rw [he]; intro h
    rcases Nat.mul_eq_zero.mp h with h | h
    · omega
    · have := two_pos t; omega
  refine ⟨fun h => ?_, fun h => ?_⟩
  · refine ⟨_, _, trailing_ok hK hm (by rw [he]; norm_cast), by decide, ?_⟩
    walk_at "vc"
    refine ⟨by omega, ?_⟩
    rw [hR, Int.toNat_natCast, fdiv_nat, he, Nat.mul_div_cancel _ (two_pos t)]
    exact last rfl (by rcases hb with hb | hb; exact .inl hb; exact .inr (by omega))
  · have ht : t = 0 := by
      cases t with
      | zero => rfl
      | succ t => rw [Nat.pow_succ] at he; exfalso; have : man = 2 * (m * 2 ^ t) := by grind
                  omega
    subst ht
    rw [Nat.pow_zero, Nat.mul_one] at he
    subst he
    rw [hR]
    exact last (by omega) (by rcases hb with hb | hb; exact .inl hb; exact .inr (by omega))

theorem bl_one : bl 1 = 1 := by decide
theorem bitAnd_two (x : Int) : Builtin.bitAnd x 2 = (x / 2 % 2) * 2 := kbt_bit x 1
theorem bl_nat {M : Nat} (h : 0 < M) : 2 ^ (bl M - 1) ≤ M ∧ M < 2 ^ bl M := by
  have := bl_bounds (x := M) (by omega)
  simpa using this
theorem bl_nat_eq {M k : Nat} (h1 : 2 ^ k ≤ M) (h2 : M < 2 ^ (k + 1)) : bl M = k + 1 := bl_eq (by simpa using h1) (by simpa using h2)
theorem bl_mul_pow {m : Nat} (h : 0 < m) (t : Nat) : bl (m * 2 ^ t : Nat) = bl m + t := by
  obtain ⟨h1, h2⟩ := bl_nat h
  have h3 : 0 < bl (m : Int) := bl_pos (by omega)
  have e : bl (m : Int) + t = (bl (m : Int) - 1 + t) + 1 := by omega
  rw [e]
  refine bl_nat_eq ?_ ?_
  · rw [Nat.pow_add]; exact Nat.mul_le_mul_right _ h1
  · rw [← e, Nat.pow_add]; exact Nat.mul_lt_mul_of_pos_right h2 (two_pos t)

abbrev sg (neg : Bool) : Int := if neg then 1 else 0

theorem norm0_ok (hK : KK cx) {w : Way} {M prec : Nat} {neg : Bool} {exp : Int} (hp : 1 ≤ prec) (hM : 0 < M) (hz : bl M ≤ 2 ^ 26) :
    ∃ m e, RD w neg prec M 1 exp m e ∧ CallOK cx 73 1 [.int (sg neg), .int M, .int exp, .int (bl M), .int prec, .str w.s] (.ok (p4 (sg neg) m e (bl m))) := by
  obtain ⟨b1, b2⟩ := bl_nat hM
  have b3 : 0 < bl (M : Int) := bl_pos (by omega)
  by_cases hn : prec < bl (M : Int)
  · obtain ⟨N, hN⟩ : ∃ N, bl (M : Int) = prec + (N + 1) := ⟨bl (M : Int) - prec - 1, by omega⟩
    -- the kept part and what is cut
    have hQ1 : 2 ^ (prec + (N + 1)) ≤ 2 * M := by
      rw [hN] at b1
      have e : prec + (N + 1) = (prec + (N + 1) - 1) + 1 := by omega
      rw [e, Nat.pow_succ]; omega
    rw [hN] at b2
    have hcl : cls (M % 2 ^ (N + 1) * (1 * 2 ^ 0) + 0) (1 * 2 ^ 0 * 2 ^ (N + 1)) = if M % 2 ^ (N + 1) = 0 then 0 else if M % 2 ^ (N + 1) < 2 ^ N then 1 else if M % 2 ^ (N + 1) = 2 ^ N then 2 else 3 := by
      rw [cls_split (by decide)]; simp
    have hq0 : 0 < M / 2 ^ (N + 1) := Nat.div_pos (by
      obtain ⟨b, rfl⟩ : ∃ b, prec = b + 1 := ⟨prec - 1, by omega⟩
      have h5 : 2 ^ (N + 1) ≤ 2 ^ (b + (N + 1)) := Nat.pow_le_pow_right (by decide) (by omega)
      have h6 : 2 ^ (b + 1 + (N + 1)) = 2 * 2 ^ (b + (N + 1)) := by rw [show b + 1 + (N + 1) = (b + (N + 1)) + 1 by omega, Nat.pow_succ]; omega
      omega) (two_pos _)
    have hqp : M / 2 ^ (N + 1) < 2 ^ prec := (Nat.div_lt_iff_lt_mul (two_pos _)).mpr (by rw [← Nat.pow_add]; exact b2)
    have hq1 : 2 ^ prec ≤ 2 * (M / 2 ^ (N + 1)) := by
      obtain ⟨b, rfl⟩ : ∃ b, prec = b + 1 := ⟨prec - 1, by omega⟩
      have h3 : 2 ^ b ≤ M / 2 ^ (N + 1) := (Nat.le_div_iff_mul_le (two_pos _)).mpr (by
        have e : 2 ^ (b + 1 + (N + 1)) = 2 * (2 ^ b * 2 ^ (N + 1)) := by rw [Nat.pow_add, Nat.pow_succ]; grind
        omega)
      rw [Nat.pow_succ]; omega
    generalize hu : (up w neg (M / 2 ^ (N + 1)) (cls (M % 2 ^ (N + 1) * (1 * 2 ^ 0) + 0) (1 * 2 ^ 0 * 2 ^ (N + 1)))).toNat = ub
    have hub : ub ≤ 1 := by rw [← hu]; cases up w neg _ _ <;> decide
    obtain ⟨m, t, hm, ht⟩ := odd_part (M / 2 ^ (N + 1) + ub) (by omega)
    refine ⟨m, exp + ((0 : Nat) - (0 : Nat) + (N + 1 : Nat)) + t, RD_make (a := M) (d := 1) (u := 0) (v := 0) (Q := M) (r := 0) (by simp) (by simp) hp hQ1 b2 hm (by rw [hu]; exact ht), ?_⟩
    have tail := fun {a b : Slot} => norm0_tail hK (sign := sg neg) (exp := exp + (bl (M : Int) - prec)) (bc := prec) (prec := prec) (w := w) (a := a) (b := b) hm ht (by
      by_cases hfull : M / 2 ^ (N + 1) + ub = 2 ^ prec
      · left
        exact (odd_unique (k := t) (k' := prec) hm (by decide : 1 % 2 = 1) (by rw [Nat.one_mul, ← ht, hfull])).1
      · right
        have : bl (M / 2 ^ (N + 1) + ub : Nat) = (prec - 1) + 1 := bl_nat_eq (by
          have : 2 ^ prec = 2 * 2 ^ (prec - 1) := by conv => lhs; rw [show prec = (prec - 1) + 1 by omega, Nat.pow_succ]
                                                     omega
          omega) (by rw [show prec - 1 + 1 = prec by omega]; omega)
        rw [ht, bl_mul_pow (by omega)] at this
        omega)
    have eN : exp + ((0 : Nat) - (0 : Nat) + (N + 1 : Nat)) + t = exp + (bl (M : Int) - prec) + t := by omega
    rw [eN]
    have hbn : (bl (M : Int) : Int) - prec = ((N + 1 : Nat) : Int) := by omega
    refine w_norm0 hK rfl (s_norm0 fun R0 h0 => ?_)
    walk_at "vc"
    refine ⟨fun h => absurd h (by omega), fun _ => ?_⟩
    rw [h0]; refine s_norm0_1 fun R1 h1 => ?_
    walk_at "vc"
    rw [h1]; refine s_norm0_2 fun R2 h2 => ?_
    walk_at "vc"
    rw [h2]
    refine ⟨fun _ => ?_, fun h => absurd (show (0 : Int) < bl (M : Int) - prec by omega) h⟩
    rw [hcl] at hu
    rw [hbn] at tail
    rw [hbn]
    have e1 : ((N + 1 : Nat) : Int) - 1 = (N : Nat) := by omega
    rw [e1, Int.toNat_natCast, Int.toNat_natCast]
    have f1 : (((M / 2 ^ N : Nat) : Int)).fdiv (2 ^ Int.toNat 1) = ((M / 2 ^ (N + 1) : Nat) : Int) := by
      rw [show Int.toNat 1 = 1 from rfl, fdiv_nat, Nat.div_div_eq_div_mul, Nat.pow_succ]; rfl
    have f2 : Builtin.bitAnd (M : Int) (1 * 2 ^ N - 1) = ((M % 2 ^ N : Nat) : Int) := by rw [Int.one_mul, kbt_mask]; norm_cast
    rw [fdiv_nat, bitAnd_m1, bitAnd_two, f1, f2, fdiv_nat, ceil_nat]
    -- the cut by halves
    have d1 : M % 2 ^ (N + 1) = M % 2 ^ N + 2 ^ N * (M / 2 ^ N % 2) := Nat.mod_pow_succ
    have d2 : M / 2 ^ (N + 1) = M / 2 ^ N / 2 := by rw [Nat.div_div_eq_div_mul, Nat.pow_succ]
    have d3 := Nat.mod_lt M (two_pos N)
    have d4 := two_pos N
    have fin : ∀ {x : Int} {a b : Slot}, x = ((M / 2 ^ (N + 1) + ub : Nat) : Int) → q_norm0_3 cx [.val (.int (sg neg)), .val (.int x), .val (.int (exp + ((N + 1 : Nat) : Int))), .val (.int prec), .val (.int prec), .val (.str w.s), a, b] [] (callPost (.ok (p4 (sg neg) m (exp + ((N + 1 : Nat) : Int) + t) (bl m)))) := by
      intro x a b hx; subst hx; exact tail
    generalize M % 2 ^ (N + 1) = low at *
    generalize M / 2 ^ (N + 1) = q at *
    generalize M / 2 ^ N = g at *
    generalize M % 2 ^ N = l at *
    generalize hH : 2 ^ N = H at *
    have hbig : (bl 1 : Int) + N ≤ 2 ^ 27 := by rw [bl_one]; omega
    have hlow0 : low = l ∨ low = l + H := by
      rcases (by omega : g % 2 = 0 ∨ g % 2 = 1) with h | h <;> rw [h] at d1 <;> omega
    obtain ⟨c, hc⟩ : ∃ c, c = if low = 0 then 0 else if low < H then 1 else if low = H then 2 else 3 := ⟨_, rfl⟩
    rw [← hc] at hu
    have k0 : c = 0 ↔ low = 0 := by subst hc; split <;> (try split) <;> (try split) <;> omega
    have k2 : c = 2 ↔ low = H := by subst hc; split <;> (try split) <;> (try split) <;> omega
    have k3 : c = 3 ↔ H < low := by subst hc; split <;> (try split) <;> (try split) <;> omega
    have no : ∀ {x : Way}, (up x neg q c = true → ub = 1) ∧ (up x neg q c = false → ub = 0) → True := fun _ => trivial
    have hu1 : up w neg q c = true → ub = 1 := fun h => by rw [← hu, h]; rfl
    have hu0 : up w neg q c = false → ub = 0 := fun h => by rw [← hu, h]; rfl
    have cut : q + (decide ¬low = 0).toNat = q + (decide (c ≠ 0)).toNat := by simp only [ne_eq, k0]
    cases w with
    | n =>
      simp only [up, decide_eq_true_eq, decide_eq_false_iff_not] at hu1 hu0
      have c1 : g % 2 = 1 → (q % 2 = 1 ∨ l ≠ 0) → ub = 1 := by
        intro h1 h2; rw [h1] at d1
        exact hu1 (by omega)
      have c2 : ¬ (g % 2 = 1 ∧ (q % 2 = 1 ∨ l ≠ 0)) → ub = 0 := by
        intro h1
        rcases (by omega : g % 2 = 0 ∨ g % 2 = 1) with h | h <;> rw [h] at d1 <;> exact hu0 (by omega)
      refine ⟨fun _ => ⟨by omega, fun h3 => ⟨fun h4 => ⟨by omega, fin (by have := c1 (by omega) (.inl (by omega)); omega)⟩, fun h4 => ⟨⟨by omega, hbig⟩, fun h5 => ⟨by omega, fin ?_⟩, fun h5 => ⟨by omega, fin ?_⟩⟩⟩, fun h3 => ⟨by omega, fin ?_⟩⟩, fun h => absurd h (by decide)⟩
      · have := c1 (by omega) (.inr (by omega)); omega
      · have := c2 (by omega); omega
      · have := c2 (by omega); omega
    | f =>
      refine ⟨fun h => absurd h (by decide), fun _ => ⟨_, down_f hK, ?_⟩⟩
      cases neg
      · walk_at "vc"
        refine ⟨by decide, by decide, _, rfl, ?_⟩
        walk_at "vc"
        exact ⟨fun _ => ⟨by omega, fin (by have := hu0 (by simp [up]); omega)⟩, fun h => absurd h (by decide)⟩
      · walk_at "vc"
        refine ⟨by decide, by decide, _, rfl, ?_⟩
        walk_at "vc"
        exact ⟨fun h => absurd trivial h, by omega, fin (by rw [cut, ← hu]; simp [up])⟩
    | c =>
      refine ⟨fun h => absurd h (by decide), fun _ => ⟨_, down_c hK, ?_⟩⟩
      cases neg
      · walk_at "vc"
        refine ⟨by decide, by decide, _, rfl, ?_⟩
        walk_at "vc"
        exact ⟨fun h => absurd trivial h, by omega, fin (by rw [cut, ← hu]; simp [up])⟩
      · walk_at "vc"
        refine ⟨by decide, by decide, _, rfl, ?_⟩
        walk_at "vc"
        exact ⟨fun _ => ⟨by omega, fin (by have := hu0 (by simp [up]); omega)⟩, fun h => absurd h (by decide)⟩
    | u =>
      refine ⟨fun h => absurd h (by decide), fun _ => ⟨_, down_u hK, ?_⟩⟩
      cases neg
      · walk_at "vc"
        refine ⟨by decide, by decide, _, rfl, ?_⟩
        walk_at "vc"
        exact ⟨fun h => absurd trivial h, by omega, fin (by rw [cut, ← hu]; simp [up])⟩
      · walk_at "vc"
        refine ⟨by decide, by decide, _, rfl, ?_⟩
        walk_at "vc"
        exact ⟨fun h => absurd trivial h, by omega, fin (by rw [cut, ← hu]; simp [up])⟩
    | d =>
      refine ⟨fun h => absurd h (by decide), fun _ => ⟨_, down_d hK, ?_⟩⟩
      cases neg
      · walk_at "vc"
        refine ⟨by decide, by decide, _, rfl, ?_⟩
        walk_at "vc"
        exact ⟨fun _ => ⟨by omega, fin (by have := hu0 (by simp [up]); omega)⟩, fun h => absurd h (by decide)⟩
      · walk_at "vc"
        refine ⟨by decide, by decide, _, rfl, ?_⟩
        walk_at "vc"
        exact ⟨fun _ => ⟨by omega, fin (by have := hu0 (by simp [up]); omega)⟩, fun h => absurd h (by decide)⟩
  · -- nothing is cut
    obtain ⟨i, hi⟩ : ∃ i, prec = bl (M : Int) + i := ⟨prec - bl (M : Int), by omega⟩
    obtain ⟨m, t, hm, ht⟩ := odd_part M hM
    have h5 : 2 ^ bl (M : Int) = 2 * 2 ^ (bl (M : Int) - 1) := by conv => lhs; rw [show bl (M : Int) = (bl (M : Int) - 1) + 1 by omega, Nat.pow_succ]
                                                                  omega
    have hr : RD w neg prec M 1 exp m (exp + t) := by
      refine ⟨-(i : Int), M * 2 ^ i, 0, t + i, ⟨i, 0, 0, by omega, by omega, by simp, by simp [cls]⟩, ?_, ?_, hm, ?_, by omega⟩
      · rw [hi, Nat.pow_add, h5]
        have := Nat.mul_le_mul_right (2 ^ i) b1
        have e : 2 * 2 ^ (bl (M : Int) - 1) * 2 ^ i = 2 * (2 ^ (bl (M : Int) - 1) * 2 ^ i) := by grind
        omega
      · rw [hi, Nat.pow_add]; exact Nat.mul_lt_mul_of_pos_right b2 (two_pos i)
      · have : up w neg (M * 2 ^ i) 0 = false := by cases w <;> simp [up]
        rw [this, ht, Nat.pow_add]; simp; grind
    refine ⟨m, exp + t, hr, ?_⟩
    have hbl : bl (M : Int) = bl (m : Int) + t := by rw [ht, bl_mul_pow (by omega)]
    refine w_norm0 hK rfl (s_norm0 fun R0 h0 => ?_)
    walk_at "vc"
    refine ⟨fun h => absurd h (by omega), fun _ => ?_⟩
    rw [h0]; refine s_norm0_1 fun R1 h1 => ?_
    walk_at "vc"
    rw [h1]; refine s_norm0_2 fun R2 h2 => ?_
    walk_at "vc"
    rw [h2]
    refine ⟨fun h => absurd h (by omega), fun _ => ?_⟩
    exact norm0_tail hK hm ht (.inr (by omega))
end Mine

namespace Mine
open PySem PySem.W PySem.Calls PyProof.Rows PySem.Spec
variable {cx : Cx}
local macro_rules | `(tactic| walk_at "vc") => `(tactic| simp only [tSeq, tSet, tIf, tRet, tSkip, tAug, tAssert, tBin, tTest, tName, tInt, tGlob, tStr, tBool, tNone, tTruth, tNotT, tTrue, tFalse, tAndT, tOrT, tIfE, tNeg, tNot, tOr, tAnd, tNil, tCons, tTup, tList, tSub, tDict, tBl, tB, tCall, tTypeIs, tIsInt, tUnpack, tUnpackR, tBrk, tCont, tRaise,
  slotQ, boolQ, truthQ, intQ, tupQ, listQ, strQ, subQ, idxQ, kI, kB, kAbs, kInt, kMin, kMax, kDivmod, setAll, outQ_ok, outQ_err, callPost_rt, callPost_nx, callPost_xx, turnP, kEq_int, kNe_int, kEq_n, kEq_f, kEq_c, kEq_u, kEq_p4, kNe_p4,
  List.getD_cons_zero, List.getD_cons_succ, List.set_cons_zero, List.set_cons_succ, valSlots, List.map_cons, List.map_nil, List.nil_append, List.cons_append, List.append_nil, List.replicate_succ, List.replicate_zero, List.length_cons, List.length_nil,
  true_and, and_true, bne_iff_ne, ne_eq, Bool.not_eq_true', Bool.not_eq_false', decide_eq_true_eq, decide_eq_false_iff_not, beq_iff_eq, beq_eq_false_iff_ne, bne_eq_false_iff_eq, Decidable.not_not, true_implies, Bool.true_eq_false, Bool.false_eq_true, false_implies, implies_true, reduceCtorEq, ok_inj, err_inj])
abbrev sv (neg : Bool) (M : Nat) : Int := if neg then -(M : Int) else M
abbrev mkr (x : Int × Int) : PyData := mk x.1 x.2
theorem bl_sv (neg : Bool) (M : Nat) : bl (sv neg M) = bl (M : Int) := by cases neg <;> simp [sv, bl_neg]
theorem mk_sv {neg : Bool} {m : Nat} {e : Int} (h : 0 < m) : mk (sv neg m) e = p4 (sg neg) m e (bl m) := by
  unfold mk
  rw [bl_sv]
  cases neg
  · rw [show sv false m = (m : Int) from rfl, if_neg (by omega)]; rfl
  · rw [show sv true m = -(m : Int) from rfl, if_pos (by omega), Int.natAbs_neg]; rfl
theorem mk_zero : mk 0 0 = p_fzero := by unfold mk; rw [bl_zero]; rfl
theorem R_zero {w bits d p} (hb : 1 ≤ bits) (hd : 0 < d) : R w bits 0 d p = (0, 0) := R_eq hb hd (.inl ⟨rfl, rfl, rfl⟩)
theorem RD.pos {w neg bits a d p m e} (r : RD w neg bits a d p m e) : 0 < m := by obtain ⟨_, _, _, _, _, _, _, h4, _⟩ := r; omega
theorem R_of_RD {w neg bits d p m e} {M : Nat} (hb : 1 ≤ bits) (hd : 0 < d) (hM : 0 < M) (r : RD w neg bits M d p m e) : R w bits (sv neg M) d p = (sv neg m, e) := by
  have hm := r.pos
  refine R_eq hb hd (.inr ⟨?_, ?_, ?_⟩)
  · cases neg <;> simp [sv] <;> omega
  · cases neg <;> simp [sv] <;> omega
  · cases neg
    · rw [show sv false M = (M : Int) from rfl, show sv false m = (m : Int) from rfl, decide_eq_false (by omega)]; exact r
    · rw [show sv true M = -(M : Int) from rfl, show sv true m = -(m : Int) from rfl, decide_eq_true (by omega), Int.natAbs_neg, Int.natAbs_neg]; exact r

theorem norm_ok (hK : KK cx) {w : Way} {M prec : Nat} {neg : Bool} {exp : Int} (hp : 1 ≤ prec ∨ M = 0) (hz : bl M ≤ 2 ^ 26) :
    CallOK cx 80 2 [.int (sg neg), .int M, .int exp, .int (bl M), .int prec, .str w.s] (.ok (mkr (R w (max 1 prec) (sv neg M) 1 exp))) := by
  refine w_normalize hK rfl (s_normalize fun R0 h0 => ?_)
  walk_at "vc"
  rw [h0]; refine s_normalize_1 fun R1 h1 => ?_
  walk_at "vc"
  refine ⟨by omega, ?_⟩
  rw [h1]; unfold q_normalize_2
  walk_at "vc"
  by_cases hM : M = 0
  · subst hM
    refine ⟨.ok p_fzero, 1, ?_, by decide, ?_⟩
    · refine w_norm0 hK rfl (s_norm0 fun R0 h0 => ?_)
      walk_at "vc"
      exact fun h => absurd rfl h
    · walk_at "vc"
      rw [show sv neg 0 = 0 by cases neg <;> rfl, R_zero (by omega) (by decide)]
      exact mk_zero
  · have hp' : 1 ≤ prec := by omega
    rw [Nat.max_eq_right hp']
    obtain ⟨m, e, hr, hc⟩ := norm0_ok hK (w := w) (neg := neg) (exp := exp) hp' (Nat.pos_of_ne_zero hM) hz
    refine ⟨_, _, hc, by decide, ?_⟩
    walk_at "vc"
    rw [R_of_RD hp' (by decide) (Nat.pos_of_ne_zero hM) hr]
    exact mk_sv hr.pos

theorem sv_natAbs (n : Int) : sv (decide (n < 0)) n.natAbs = n := by
  by_cases h : n < 0
  · rw [decide_eq_true h]; simp [sv]; omega
  · rw [decide_eq_false h]; simp [sv]; omega
theorem sg_lt (n : Int) : sg (decide (n < 0)) = if n < 0 then 1 else 0 := by
  by_cases h : n < 0 <;> simp [h]
/-- normalize of a signed whole number -/
theorem normI_ok (hK : KK cx) {w : Way} {prec : Nat} {n exp s M b : Int} (hp : 1 ≤ prec ∨ n = 0) (hz : bl n ≤ 2 ^ 26) (hs : s = if n < 0 then 1 else 0) (hM : M = n.natAbs) (hb : b = bl n) :
    CallOK cx 80 2 [.int s, .int M, .int exp, .int b, .int prec, .str w.s] (.ok (mkr (R w (max 1 prec) n 1 exp))) := by
  have := norm_ok hK (w := w) (M := n.natAbs) (prec := prec) (neg := decide (n < 0)) (exp := exp) (by omega) (by rw [bl_natAbs]; exact hz)
  rw [sv_natAbs, sg_lt, bl_natAbs] at this
  subst hs hM hb; exact this

/-- from_man_exp with a precision -/
theorem fme_ok (hK : KK cx) {w : Way} {prec : Nat} {n exp : Int} (hp : 1 ≤ prec) (hz : bl n ≤ 2 ^ 26) :
    CallOK cx 88 3 [.int n, .int exp, .int prec, .str w.s] (.ok (mkr (R w prec n 1 exp))) := by
  have hn := normI_ok hK (w := w) (prec := prec) (n := n) (exp := exp) (.inl hp) hz rfl rfl rfl
  rw [Nat.max_eq_right hp] at hn
  refine w_from_man_exp4 hK rfl (s_from_man_exp fun R0 h0 => ?_)
  walk_at "vc"
  rw [h0]; refine s_from_man_exp_1 fun R1 h1 => ?_
  walk_at "vc"
  rw [h1]; refine s_from_man_exp_2 fun R2 h2 => ?_
  have fin : ∀ {s M : Int} {x : Slot}, s = (if n < 0 then 1 else 0) → M = n.natAbs → R2 [.val (.int M), .val (.int exp), .val (.int prec), .val (.str w.s), .val (.int s), .undef, x] [] (callPost (.ok (mkr (R w prec n 1 exp)))) := by
    intro s M x hs hM
    rw [h2]; refine s_from_man_exp_3 fun R3 h3 => ?_
    walk_at "vc"
    rw [h3]; refine s_from_man_exp_4 fun R4 h4 => ?_
    walk_at "vc"
    refine ⟨fun h => absurd h (by omega), fun _ => ?_⟩
    rw [h4]; unfold q_from_man_exp_5
    walk_at "vc"
    subst hs hM; rw [bl_natAbs]
    refine ⟨_, _, hn, by decide, ?_⟩
    walk_at "vc"
  walk_at "vc"
  exact ⟨fun h => fin (by rw [if_pos h]) (by omega), fun h => fin (by rw [if_neg h]) (by omega)⟩

/-- what is exact is its own rounding -/
def Odd0 (m e : Int) : Prop := m % 2 = 1 ∨ (m = 0 ∧ e = 0)
theorem Rn_self {w bits m e} (h : Odd0 m e) (hb : bl m ≤ bits) : Rn w bits m 1 e m e := by
  rcases h with h | ⟨rfl, rfl⟩
  · have hm : m ≠ 0 := by omega
    obtain ⟨b1, b2⟩ := bl_bounds hm
    have b3 := bl_pos hm
    obtain ⟨i, hi⟩ : ∃ i, bits = bl m + i := ⟨bits - bl m, by omega⟩
    refine .inr ⟨hm, Iff.rfl, -(i : Int), m.natAbs * 2 ^ i, 0, i, ⟨i, 0, 0, by omega, by omega, by simp, by simp [cls]⟩, ?_, ?_, by omega, ?_, by omega⟩
    · have h5 : 2 ^ bl m = 2 * 2 ^ (bl m - 1) := by conv => lhs; rw [show bl m = (bl m - 1) + 1 by omega, Nat.pow_succ]
                                                    omega
      rw [hi, Nat.pow_add, h5]
      have := Nat.mul_le_mul_right (2 ^ i) b1
      have e : 2 * 2 ^ (bl m - 1) * 2 ^ i = 2 * (2 ^ (bl m - 1) * 2 ^ i) := by grind
      omega
    · rw [hi, Nat.pow_add]; exact Nat.mul_lt_mul_of_pos_right b2 (two_pos i)
    · have : up w (decide (m < 0)) (m.natAbs * 2 ^ i) 0 = false := by cases w <;> simp [up]
      rw [this]; simp
  · exact .inl ⟨rfl, rfl, rfl⟩
theorem R_self {w bits m e} (h : Odd0 m e) (hp : 1 ≤ bits) (hb : bl m ≤ bits) : R w bits m 1 e = (m, e) := R_eq hp (by decide) (Rn_self h hb)
theorem R_can {w bits n d p} (hb : 1 ≤ bits) (hd : 0 < d) : Odd0 (R w bits n d p).1 (R w bits n d p).2 ∧ bl (R w bits n d p).1 ≤ bits := by
  rcases R_spec (w := w) (n := n) (p := p) hb hd with ⟨h1, h2, h3⟩ | ⟨h1, h2, j, q, c, k, g1, g2, g3, g4, g5, g6⟩
  · rw [h2, h3]; exact ⟨.inr ⟨rfl, rfl⟩, by rw [bl_zero]; omega⟩
  · refine ⟨.inl (by omega), bl_le.mpr ?_⟩
    have hle : (R w bits n d p).1.natAbs * 1 ≤ (R w bits n d p).1.natAbs * 2 ^ k := Nat.mul_le_mul_left _ (two_pos k)
    have hub : (up w (decide (n < 0)) q c).toNat ≤ 1 := by cases up w _ q c <;> decide
    have : (R w bits n d p).1.natAbs ≠ 2 ^ bits := fun h => by
      obtain ⟨b, rfl⟩ : ∃ b, bits = b + 1 := ⟨bits - 1, by omega⟩
      rw [Nat.pow_succ] at h; omega
    omega
/-- a whole number, zeros away -/
noncomputable def St (n p : Int) : Int × Int := R .d (max 1 (bl n)) n 1 p
theorem St_val {n p : Int} (h : n ≠ 0) : ∃ k : Nat, n = (St n p).1 * 2 ^ k ∧ (St n p).2 = p + k ∧ (St n p).1 % 2 = 1 := by
  obtain ⟨m, k, hm, hk⟩ := odd_part n.natAbs (by omega)
  have e : St n p = (sv (decide (n < 0)) m, p + k) := by
    unfold St
    refine R_eq (by omega) (by decide) ?_
    have b3 := bl_pos h
    obtain ⟨b1, b2⟩ := bl_bounds h
    have h5 : 2 ^ bl n = 2 * 2 ^ (bl n - 1) := by conv => lhs; rw [show bl n = (bl n - 1) + 1 by omega, Nat.pow_succ]
                                                  omega
    have e1 : (sv (decide (n < 0)) m).natAbs = m := by unfold sv; split <;> omega
    refine .inr ⟨h, ?_, ?_⟩
    · by_cases hn : n < 0 <;> simp [sv, hn]; omega
    · rw [e1]
      refine ⟨0, n.natAbs, 0, k, ⟨0, 0, 0, by omega, by omega, by simp, by simp [cls]⟩, by rw [Nat.max_eq_right (by omega)]; omega, by rw [Nat.max_eq_right (by omega)]; exact b2, hm, ?_, by omega⟩
      have : up .d (decide (n < 0)) n.natAbs 0 = false := rfl
      rw [this, hk]; simp
  rw [e]
  refine ⟨k, ?_, rfl, ?_⟩
  · have h4 : ((n.natAbs : Nat) : Int) = (m : Int) * 2 ^ k := by rw [hk]; norm_cast
    by_cases hn : n < 0
    · simp only [hn, decide_true, sv, if_true]; rw [Int.neg_mul]; omega
    · simp only [hn, decide_false, sv]; simp only [Bool.false_eq_true, if_false]; omega
  · by_cases hn : n < 0 <;> simp [sv, hn] <;> omega
theorem St_zero {p : Int} : St 0 p = (0, 0) := R_zero (by omega) (by decide)
theorem St_can {n p : Int} : Odd0 (St n p).1 (St n p).2 := (R_can (by omega) (by decide)).1
/-- rounding looks through -/
theorem R_St {w bits n p} (hb : 1 ≤ bits) : R w bits (St n p).1 1 (St n p).2 = R w bits n 1 p := by
  by_cases h : n = 0
  · subst h; rw [St_zero, R_zero hb (by decide), R_zero hb (by decide)]
  · obtain ⟨k, h1, h2, h3⟩ := St_val (p := p) h
    have g1 : (St n p).1 * 2 ^ k * ((1 : Nat) : Int) = n * 2 ^ 0 * ((1 : Nat) : Int) := by rw [← h1]; simp
    have g2 : (St n p).2 + ((0 : Nat) : Int) = p + (k : Nat) := by omega
    exact R_congr hb (by decide) (by decide) g1 g2
end Mine

namespace Mine
open PySem PySem.W PySem.Calls PyProof.Rows PySem.Spec
variable {cx : Cx}
def sn (m : Int) : Int := if m < 0 then 1 else 0
theorem tupQ_mk {m e : Int} {Q : List PyData → Prop} : tupQ (mk m e) Q = Q [.int (sn m), .int (m.natAbs : Nat), .int e, .int (bl m : Nat)] := rfl
theorem subQ_mk {m e k : Int} {Q : PyData → Prop} : subQ (mk m e) (.int k) Q = idxQ [.int (sn m), .int (m.natAbs : Nat), .int e, .int (bl m : Nat)] k Q := rfl
theorem kEq_mk {m e a b c d : Int} {Q : PyData → Prop} : kEq (mk m e) (p4 a b c d) Q = Q (.bool (sn m == a && ((m.natAbs : Int) == b && (e == c && (bl m : Int) == d)))) := kEq_p4
theorem sn_z {m : Int} : (sn m = 0) = (0 ≤ m) := by unfold sn; split <;> simp <;> omega
theorem natAbs_z {m : Int} : (((m.natAbs : Nat) : Int) = 0) = (m = 0) := by simp
theorem natCast_z {m : Nat} : (((m : Nat) : Int) = 0) = (m = 0) := by simp
theorem tupQ_tuple {ds : List PyData} {Q : List PyData → Prop} : tupQ (.tuple ds) Q = Q ds := rfl
theorem subQ_tuple {ds : List PyData} {k : Int} {Q : PyData → Prop} : subQ (.tuple ds) (.int k) Q = idxQ ds k Q := rfl
theorem subQ_list {ds : List PyData} {k : Int} {Q : PyData → Prop} : subQ (.list ds) (.int k) Q = idxQ ds k Q := rfl
theorem subQ_str {x : Str} {k : Int} {Q : PyData → Prop} : subQ (.str x) (.int k) Q = (0 ≤ k ∧ k < 1000000 ∧ ∃ c, x.cps[k.toNat]? = some c ∧ Q (.str ⟨#[c]⟩)) := rfl
theorem setAll_cons {ρ : List Slot} {i : Nat} {is : List Nat} {d : PyData} {ds : List PyData} : setAll ρ (i :: is) (d :: ds) = setAll (ρ.set i (.val d)) is ds := rfl
theorem setAll_nil {ρ : List Slot} {ds : List PyData} : setAll ρ [] ds = ρ := by cases ds <;> rfl
local macro_rules | `(tactic| walk_at "vc") => `(tactic| simp only [tSeq, tSet, tIf, tRet, tSkip, tAug, tAssert, tBin, tTest, tName, tInt, tGlob, tStr, tBool, tNone, tTruth, tNotT, tTrue, tFalse, tAndT, tOrT, tIfE, tNeg, tNot, tOr, tAnd, tNil, tCons, tTup, tList, tSub, tDict, tBl, tB, tCall, tTypeIs, tIsInt, tUnpack, tUnpackR, tBrk, tCont, tRaise,
  slotQ, boolQ, truthQ, intQ, tupQ_tuple, listQ, strQ, subQ_tuple, subQ_list, subQ_str, idxQ, kI, kB, kAbs, kInt, kMin, kMax, kDivmod, setAll_cons, setAll_nil, outQ_ok, outQ_err, callPost_rt, callPost_nx, callPost_xx, turnP, kEq_int, kNe_int, kEq_n, kEq_f, kEq_c, kEq_u, kEq_p4, kNe_p4,
  List.getD_cons_zero, List.getD_cons_succ, List.set_cons_zero, List.set_cons_succ, valSlots, List.map_cons, List.map_nil, List.nil_append, List.cons_append, List.append_nil, List.replicate_succ, List.replicate_zero, List.length_cons, List.length_nil,
  true_and, and_true, bne_iff_ne, ne_eq, Bool.not_eq_true', Bool.not_eq_false', decide_eq_true_eq, decide_eq_false_iff_not, beq_iff_eq, beq_eq_false_iff_ne, bne_eq_false_iff_eq, Decidable.not_not, true_implies, Bool.true_eq_false, Bool.false_eq_true, false_implies, implies_true, not_true_eq_false, not_false_eq_true, reduceCtorEq, ok_inj, err_inj, tupQ_mk, subQ_mk, kEq_mk, sn_z, natAbs_z, natCast_z])
/-- the outcome: with no precision what is exact -/
noncomputable def rz (prec : Nat) (w : Way) (n p : Int) : Int × Int := if prec = 0 then St n p else R w prec n 1 p
theorem R_exact {w bits n p} (hb : 1 ≤ bits) (h : bl n ≤ bits) : R w bits n 1 p = St n p := by
  have hc : bl (St n p).1 ≤ bits := by
    by_cases h0 : n = 0
    · rw [h0, St_zero, bl_zero]; omega
    · obtain ⟨k, h1, h2, h3⟩ := St_val (p := p) h0
      refine bl_le.mpr (Nat.lt_of_le_of_lt ?_ (bl_le.mp h))
      conv => rhs; rw [h1]
      rw [Int.natAbs_mul]
      have : 0 < ((2 : Int) ^ k).natAbs := by rw [Int.natAbs_pow]; exact two_pos k
      exact Nat.le_mul_of_pos_right _ this
  rw [← R_St hb, R_self St_can hb hc]
theorem St_self {m e} (h : Odd0 m e) : St m e = (m, e) := by unfold St; exact R_self h (by omega) (by omega)
theorem rz_self {prec w m e} (h : Odd0 m e) (hb : prec = 0 ∨ bl m ≤ prec) : rz prec w m e = (m, e) := by
  unfold rz
  split
  · exact St_self h
  · exact R_self h (by omega) (by omega)
theorem rz_congr {prec w} {n n' p p' : Int} {i i' : Nat} (h : n * 2 ^ i = n' * 2 ^ i') (hp : p + i' = p' + i) : rz prec w n p = rz prec w n' p' := by
  unfold rz
  split
  · rw [← R_exact (w := .d) (bits := max 1 (max (bl n) (bl n'))) (by omega) (by omega), ← R_exact (w := .d) (bits := max 1 (max (bl n) (bl n'))) (n := n') (by omega) (by omega)]
    exact R_congr (by omega) (by decide) (by decide) (by simpa using h) hp
  · exact R_congr (by omega) (by decide) (by decide) (by simpa using h) hp
theorem rz_can {prec w n p} : Odd0 (rz prec w n p).1 (rz prec w n p).2 := by
  unfold rz
  split
  · exact St_can
  · exact (R_can (by omega) (by decide)).1
theorem rz_zero {prec w p} : rz prec w 0 p = (0, 0) := by
  unfold rz
  split
  · exact St_zero
  · exact R_zero (by omega) (by decide)

theorem normZ (hK : KK cx) {w : Way} {prec : Nat} {n exp s M b P : Int} {X : Int × Int} (hz : bl n ≤ 2 ^ 26) (hs : n ≠ 0 → s = sn n) (h01 : s = 0 ∨ s = 1) (hM : M = n.natAbs) (hb : b = bl n) (hP : P = if prec = 0 then (bl n : Int) else prec) (hX : rz prec w n exp = X) :
    CallOK cx 80 2 [.int s, .int M, .int exp, .int b, .int P, .str w.s] (.ok (mkr X)) := by
  subst hX hM hb
  by_cases hn : n = 0
  · subst hn
    have hP' : ∃ P' : Nat, P = P' := by subst hP; split <;> exact ⟨_, rfl⟩
    obtain ⟨P', rfl⟩ := hP'
    have := norm_ok hK (w := w) (M := 0) (prec := P') (neg := decide (s = 1)) (exp := exp) (.inr rfl) (by decide)
    rw [rz_zero]
    rw [show sv (decide (s = 1)) 0 = 0 by cases decide (s = 1) <;> rfl, R_zero (by omega) (by decide)] at this
    have e : s = sg (decide (s = 1)) := by rcases h01 with h | h <;> subst h <;> rfl
    rw [e]; exact this
  · have := normI_ok hK (w := w) (prec := if prec = 0 then bl n else prec) (n := n) (exp := exp) (s := s) (M := n.natAbs) (b := bl n) (by
      have := bl_pos hn
      left; split <;> omega) hz (hs hn) rfl rfl
    have e : ((if prec = 0 then bl n else prec : Nat) : Int) = P := by rw [hP]; split <;> rfl
    rw [e] at this
    have e2 : R w (max 1 (if prec = 0 then bl n else prec)) n 1 exp = rz prec w n exp := by
      have := bl_pos hn
      unfold rz
      split
      · rw [R_exact (by omega) (by omega)]
      · rw [Nat.max_eq_right (by omega)]
    rw [e2] at this
    exact this

theorem sn01 (m : Int) : sn m = 0 ∨ sn m = 1 := by unfold sn; split <;> simp
theorem sn_def (m : Int) : (m < 0 ∧ sn m = 1) ∨ (0 ≤ m ∧ sn m = 0) := by unfold sn; split <;> simp <;> omega


theorem callI {f : Addr} {n r : Nat} {args : List PyData} {d : PyData} {Q : PyData → Prop} {X : Exn → Prop} (h : CallOK cx f r args (.ok d)) (hr : r < n) (hq : Q d) : ∃ out r, CallOK cx f r args out ∧ r < n ∧ outQ out Q X := ⟨_, _, h, hr, hq⟩

theorem pos_ok (hK : KK cx) {w : Way} {prec : Nat} {m e : Int} (h : Odd0 m e) (hz : bl m ≤ 2 ^ 26) :
    CallOK cx 199 3 [mk m e, .int prec, .str w.s] (.ok (mkr (rz prec w m e))) := by
  refine w_mpf_pos3 hK rfl (s_mpf_pos fun R0 h0 => ?_)
  walk_at "vc"
  have hn : prec ≠ 0 → CallOK cx 80 2 _ _ := fun hp => normZ hK (w := w) (prec := prec) (n := m) (exp := e) (s := sn m) (M := m.natAbs) (b := bl m) (P := prec) hz (fun _ => rfl) (sn01 m) rfl rfl (by rw [if_neg (by omega)]) rfl
  refine ⟨fun hp => ⟨fun h1 => ⟨fun h2 => ?_, fun h2 => callI (hn hp) (by decide) rfl⟩, fun h1 => callI (hn hp) (by decide) rfl⟩, fun hp => ?_⟩
  · rcases h with h | h <;> omega
  · rw [h0]; unfold q_mpf_pos_1; walk_at "vc"
    subst hp
    unfold rz; rw [if_pos rfl, St_self h]

theorem Odd0.neg {m e : Int} (h : Odd0 m e) : Odd0 (-m) e := by unfold Odd0 at *; omega
theorem mk_neg {m e : Int} (h : m ≠ 0) : mk (-m) e = p4 (1 - sn m) (m.natAbs : Nat) e (bl m : Nat) := by
  show p4 (sn (-m)) ((-m).natAbs : Nat) e (bl (-m) : Nat) = _
  rw [bl_neg, Int.natAbs_neg]
  have : sn (-m) = 1 - sn m := by have := sn_def m; have := sn_def (-m); omega
  rw [this]

theorem neg_ok (hK : KK cx) {w : Way} {prec : Nat} {m e : Int} (h : Odd0 m e) (hz : bl m ≤ 2 ^ 26) :
    CallOK cx 207 3 [mk m e, .int prec, .str w.s] (.ok (mkr (rz prec w (-m) e))) := by
  refine w_mpf_neg3 hK rfl (s_mpf_neg fun R0 h0 => ?_)
  walk_at "vc"
  rw [h0]; refine s_mpf_neg_1 fun R1 h1 => ?_
  walk_at "vc"
  refine ⟨fun hm => ⟨fun he => ?_, fun he => ?_⟩, fun hm => ?_⟩
  · rcases h with h | h <;> omega
  · have hm : m = 0 := by omega
    subst hm he
    rw [Int.neg_zero, rz_zero]
  · have hm0 : m ≠ 0 := by omega
    rw [h1]; refine s_mpf_neg_2 fun R2 h2 => ?_
    walk_at "vc"
    refine ⟨fun hp => ⟨by decide, ?_⟩, fun hp => ?_⟩
    · subst hp; unfold rz; rw [if_pos rfl, St_self h.neg, mkr, mk_neg hm0]
    · rw [h2]; unfold q_mpf_neg_3; walk_at "vc"
      exact callI (normZ hK (w := w) (prec := prec) (n := -m) (exp := e) (by rw [bl_neg]; exact hz) (fun _ => by have := sn_def m; have := sn_def (-m); omega) (by have := sn_def m; omega) (by rw [Int.natAbs_neg]) (by rw [bl_neg]) (by rw [if_neg (by omega)]) rfl) (by decide) rfl

theorem neg1_ok (hK : KK cx) {m e : Int} (h : Odd0 m e) (hz : bl m ≤ 2 ^ 26) :
    CallOK cx 207 3 [mk m e] (.ok (mk (-m) e)) := by
  refine w_mpf_neg1 hK rfl (s_mpf_neg fun R0 h0 => ?_)
  walk_at "vc"
  rw [h0]; refine s_mpf_neg_1 fun R1 h1 => ?_
  walk_at "vc"
  refine ⟨fun hm => ⟨fun he => ?_, fun he => ?_⟩, fun hm => ?_⟩
  · rcases h with h | h <;> omega
  · have hm : m = 0 := by omega
    subst hm; rfl
  · have hm0 : m ≠ 0 := by omega
    rw [h1]; refine s_mpf_neg_2 fun R2 h2 => ?_
    walk_at "vc"
    exact ⟨by simp, mk_neg hm0⟩

theorem abs_ok (hK : KK cx) {w : Way} {prec : Nat} {m e : Int} (h : Odd0 m e) (hz : bl m ≤ 2 ^ 26) (hp : 1 ≤ prec) :
    CallOK cx 215 3 [mk m e, .int prec, .str w.s] (.ok (mkr (rz prec w (m.natAbs : Nat) e))) := by
  refine w_mpf_abs3 hK rfl (s_mpf_abs fun R0 h0 => ?_)
  walk_at "vc"
  rw [h0]; refine s_mpf_abs_1 fun R1 h1 => ?_
  walk_at "vc"
  have fin : R1 = q_mpf_abs_2 cx → R1 [.val (mk m e), .val (.int prec), .val (.str w.s), .val (.int (sn m)), .val (.int m.natAbs), .val (.int e), .val (.int (bl m))] [] (callPost (.ok (mkr (rz prec w (m.natAbs : Nat) e)))) := by
    intro h1
    rw [h1]; refine s_mpf_abs_2 fun R2 h2 => ?_
    walk_at "vc"
    refine ⟨fun hp => absurd hp (by omega), fun _ => ?_⟩
    rw [h2]; unfold q_mpf_abs_3; walk_at "vc"
    exact callI (normZ hK (w := w) (prec := prec) (n := (m.natAbs : Nat)) (exp := e) (by rw [bl_natAbs]; exact hz) (fun _ => by have := sn_def (m.natAbs : Nat); omega) (.inl rfl) (by omega) (by rw [bl_natAbs]) (by rw [if_neg (by omega)]) rfl) (by decide) rfl
  refine ⟨fun hm => ⟨fun he => ?_, fun he => ?_⟩, fun hm => ?_⟩
  · rcases h with h | h <;> omega
  · exact fin h1
  · exact fin h1

theorem shift_ok (hK : KK cx) {m e n : Int} (h : Odd0 m e) :
    CallOK cx 269 0 [mk m e, .int n] (.ok (if m = 0 then mk m e else mk m (e + n))) := by
  refine w_mpf_shift hK rfl (s_mpf_shift fun R0 h0 => ?_)
  walk_at "vc"
  rw [h0]; refine s_mpf_shift_1 fun R1 h1 => ?_
  walk_at "vc"
  refine ⟨fun hm => ?_, fun hm => ?_⟩
  · rw [if_pos (by omega)]
  · rw [if_neg (by omega), h1]; unfold q_mpf_shift_2; walk_at "vc"
    exact ⟨by decide, rfl⟩

theorem xor_sg (a b : Bool) : Builtin.bitXor (sg a) (sg b) = sg (a != b) := by cases a <;> cases b <;> decide
theorem sn_sg (m : Int) : sn m = sg (decide (m < 0)) := by unfold sn; split <;> simp [*]
theorem xor_sn {a b : Int} (ha : a ≠ 0) (hb : b ≠ 0) : Builtin.bitXor (sn a) (sn b) = sn (a * b) := by
  rw [sn_sg, sn_sg, xor_sg, sn_sg]
  congr 1
  by_cases h1 : a < 0 <;> by_cases h2 : b < 0
  · have := Int.mul_pos_of_neg_of_neg h1 h2; simp [h1, h2]; omega
  · have := Int.mul_neg_of_neg_of_pos h1 (show 0 < b by omega); simp [h1, h2]; omega
  · have := Int.mul_neg_of_pos_of_neg (show 0 < a by omega) h2; simp [h1, h2]; omega
  · have := Int.mul_pos (show 0 < a by omega) (show 0 < b by omega); simp [h1, h2]; omega
theorem bl_mul (a b : Int) : bl (a * b) ≤ bl a + bl b := intBits_mul_le (Nat.le_refl _) (Nat.le_refl _)


/-- mpf_mul -/
theorem mul_core (hK : KK cx) {w : Way} {prec : Nat} {m e m' e' : Int} (h : Odd0 m e) (h' : Odd0 m' e') (hz : bl m ≤ 2 ^ 20) (hz' : bl m' ≤ 2 ^ 20) :
    q_mpf_mul cx (valSlots ([mk m e, mk m' e', .int prec, .str w.s] ++ []) 13) [] (callPost (.ok (mkr (rz prec w (m * m') (e + e'))))) := by
  have hbm := bl_mul m m'
  refine s_mpf_mul fun R0 h0 => ?_
  walk_at "vc"
  rw [h0]; refine s_mpf_mul_1 fun R1 h1 => ?_
  walk_at "vc"
  rw [h1]; refine s_mpf_mul_2 fun R2 h2 => ?_
  walk_at "vc"
  rw [h2]; refine s_mpf_mul_3 fun R3 h3 => ?_
  walk_at "vc"
  rw [bl_natAbs, bl_natAbs]
  refine ⟨⟨by omega, by omega⟩, ?_⟩
  have e1 : ((m.natAbs : Nat) : Int) * (m'.natAbs : Nat) = ((m * m').natAbs : Nat) := by rw [Int.natAbs_mul]; push_cast; rfl
  rw [h3, e1]; refine s_mpf_mul_4 fun R4 h4 => ?_
  walk_at "vc"
  by_cases hm : m * m' = 0
  · refine ⟨fun hq => absurd (by omega) hq, fun _ => ?_⟩
    have hsp : m = 0 ∨ m' = 0 := Int.mul_eq_zero.mp hm
    have z : mkr (rz prec w (m * m') (e + e')) = p_fzero := by rw [hm, rz_zero]; exact mk_zero
    rw [z]
    rw [h4]; refine s_mpf_mul_5 fun R5 h5 => ?_
    walk_at "vc"
    have k1 : m = 0 → e = 0 := fun q => by rcases h with h | h <;> omega
    have k2 : m' = 0 → e' = 0 := fun q => by rcases h' with h | h <;> omega
    have go6 : ∀ {x : PyData}, (x = .bool false ∨ x = .int 0) → R5 [.val (mk m e), .val (mk m' e'), .val (.int prec), .val (.str w.s), .val (.int (sn m)), .val (.int m.natAbs), .val (.int e), .val (.int (bl m)), .val (.int (sn m')), .val (.int m'.natAbs), .val (.int e'), .val (.int (bl m')), .val (.int (Builtin.bitXor (sn m) (sn m'))), .val (.int (m * m').natAbs), .undef, .val x, .undef] [] (callPost (.ok p_fzero)) := by
      intro x hx
      rw [h5]; refine s_mpf_mul_6 fun R6 h6 => ?_
      walk_at "vc"
      have go7 : ∀ {y : PyData}, (y = .bool false ∨ y = .int 0) → R6 [.val (mk m e), .val (mk m' e'), .val (.int prec), .val (.str w.s), .val (.int (sn m)), .val (.int m.natAbs), .val (.int e), .val (.int (bl m)), .val (.int (sn m')), .val (.int m'.natAbs), .val (.int e'), .val (.int (bl m')), .val (.int (Builtin.bitXor (sn m) (sn m'))), .val (.int (m * m').natAbs), .undef, .val x, .val y] [] (callPost (.ok p_fzero)) := by
        intro y hy
        rw [h6]; refine s_mpf_mul_7 fun R7 h7 => ?_
        walk_at "vc"
        rcases hx with rfl | rfl <;> rcases hy with rfl | rfl <;> walk_at "vc"
      exact ⟨fun q => go7 (.inr (by rw [k2 (by omega)])), fun q => go7 (.inl (by simp; omega))⟩
    exact ⟨fun q => go6 (.inr (by rw [k1 (by omega)])), fun q => go6 (.inl (by simp; omega))⟩
  · have hm1 : m ≠ 0 := fun q => hm (by rw [q, Int.zero_mul])
    have hm2 : m' ≠ 0 := fun q => hm (by rw [q, Int.mul_zero])
    have hn := fun hp : prec ≠ 0 => normZ hK (w := w) (prec := prec) (n := m * m') (exp := e + e') (s := Builtin.bitXor (sn m) (sn m')) (M := (m * m').natAbs) (b := bl ((m * m').natAbs : Nat)) (P := prec) (by omega) (fun _ => xor_sn hm1 hm2) (by rw [xor_sn hm1 hm2]; exact sn01 _) rfl (by rw [bl_natAbs]) (by rw [if_neg hp]) rfl
    refine ⟨fun _ => ⟨fun hp => callI (hn (by omega)) (by decide) rfl, fun hp => ⟨by decide, ?_⟩⟩, fun hq => absurd (show m * m' = 0 by omega) hm⟩
    rw [xor_sn hm1 hm2, bl_natAbs]
    have hodd : Odd0 (m * m') (e + e') := by
      left
      have a1 : m % 2 = 1 := by rcases h with h | h <;> omega
      have a2 : m' % 2 = 1 := by rcases h' with h | h <;> omega
      rw [Int.mul_emod, a1, a2]; rfl
    unfold rz; rw [if_pos (by omega), St_self hodd]
    rfl
theorem mul4_ok (hK : KK cx) {w : Way} {prec : Nat} {m e m' e' : Int} (h : Odd0 m e) (h' : Odd0 m' e') (hz : bl m ≤ 2 ^ 20) (hz' : bl m' ≤ 2 ^ 20) :
    CallOK cx 254 3 [mk m e, mk m' e', .int prec, .str w.s] (.ok (mkr (rz prec w (m * m') (e + e')))) := w_mpf_mul4 hK rfl (mul_core hK h h' hz hz')
theorem mul2_ok (hK : KK cx) {m e m' e' : Int} (h : Odd0 m e) (h' : Odd0 m' e') (hz : bl m ≤ 2 ^ 20) (hz' : bl m' ≤ 2 ^ 20) :
    CallOK cx 254 3 [mk m e, mk m' e'] (.ok (mkr (St (m * m') (e + e')))) := w_mpf_mul2 hK rfl (mul_core hK (w := .d) (prec := 0) h h' hz hz')
end Mine

namespace Mine
open PySem PySem.W PySem.Calls PyProof.Rows PySem.Spec
variable {cx : Cx}
local macro_rules | `(tactic| walk_at "vc") => `(tactic| simp only [tSeq, tSet, tIf, tRet, tSkip, tAug, tAssert, tBin, tTest, tName, tInt, tGlob, tStr, tBool, tNone, tTruth, tNotT, tTrue, tFalse, tAndT, tOrT, tIfE, tNeg, tNot, tOr, tAnd, tNil, tCons, tTup, tList, tSub, tDict, tBl, tB, tCall, tTypeIs, tIsInt, tUnpack, tUnpackR, tBrk, tCont, tRaise,
  slotQ, boolQ, truthQ, intQ, tupQ_tuple, listQ, strQ, subQ_tuple, subQ_list, subQ_str, idxQ, kI, kB, kAbs, kInt, kMin, kMax, kDivmod, setAll_cons, setAll_nil, outQ_ok, outQ_err, callPost_rt, callPost_nx, callPost_xx, turnP, kEq_int, kNe_int, kEq_n, kEq_f, kEq_c, kEq_u, kEq_p4, kNe_p4,
  List.getD_cons_zero, List.getD_cons_succ, List.set_cons_zero, List.set_cons_succ, valSlots, List.map_cons, List.map_nil, List.nil_append, List.cons_append, List.append_nil, List.replicate_succ, List.replicate_zero, List.length_cons, List.length_nil,
  true_and, and_true, bne_iff_ne, ne_eq, Bool.not_eq_true', Bool.not_eq_false', decide_eq_true_eq, decide_eq_false_iff_not, beq_iff_eq, beq_eq_false_iff_ne, bne_eq_false_iff_eq, Decidable.not_not, true_implies, Bool.true_eq_false, Bool.false_eq_true, false_implies, implies_true, not_true_eq_false, not_false_eq_true, reduceCtorEq, ok_inj, err_inj, tupQ_mk, subQ_mk, kEq_mk, sn_z, natAbs_z, natCast_z])
/-- two fractions between the same whole numbers round alike -/
theorem R_between {w bits neg} {p : Int} {a d a' d' N : Nat} (hb : 1 ≤ bits) (h1 : N * d < a) (h2 : a < (N + 1) * d) (h1' : N * d' < a') (h2' : a' < (N + 1) * d') (hN : 2 ^ bits ≤ N) :
    R w bits (sv neg a) d p = R w bits (sv neg a') d' p := by
  obtain ⟨m, e, hr⟩ := RD_exists (w := w) (neg := neg) (p := p - 1) (a := 2 * N + 1) (d := 1) hb (by omega) (by decide)
  have r1 := RD_sticky h1 h2 hN hr
  have r2 := RD_sticky h1' h2' hN hr
  have d1 : 0 < d := by rcases Nat.eq_zero_or_pos d with h | h; (subst h; omega); exact h
  have d2 : 0 < d' := by rcases Nat.eq_zero_or_pos d' with h | h; (subst h; omega); exact h
  rw [R_of_RD hb d1 (by omega) r1, R_of_RD hb d2 (by omega) r2]

/-- the sum at a common power -/
def sumN (m e m' e' : Int) : Int := m * 2 ^ (e - min e e').toNat + m' * 2 ^ (e' - min e e').toNat

theorem pow_i (k : Nat) : (2 : Int) ^ k = ((2 ^ k : Nat) : Int) := by norm_cast

/-- far apart: a stand-in for the little one -/
theorem far_ok {w : Way} {prec off : Nat} {m m' e' : Int} (hp : 1 ≤ prec) (hm : m ≠ 0) (hm' : m' ≠ 0) (hb : bl m ≤ prec) (hf : bl m' + prec + 4 < bl m + off) :
    R w prec (sv (decide (m < 0)) (m.natAbs * 2 ^ (prec + 4) + 1)) 1 (e' + off - (prec + 4 : Nat)) = R w prec (sv (decide (m < 0)) (m.natAbs * 2 ^ off + m'.natAbs)) 1 e' ∧
    R w prec (sv (decide (m < 0)) (m.natAbs * 2 ^ (prec + 4) - 1)) 1 (e' + off - (prec + 4 : Nat)) = R w prec (sv (decide (m < 0)) (m.natAbs * 2 ^ off - m'.natAbs)) 1 e' ∧ 0 < m.natAbs * 2 ^ (prec + 4) - 1 ∧ m'.natAbs < m.natAbs * 2 ^ off := by
  obtain ⟨b1, b2⟩ := bl_bounds hm
  obtain ⟨c1, c2⟩ := bl_bounds hm'
  have p1 := bl_pos hm
  have p2 := bl_pos hm'
  generalize hu : bl m = u at *
  generalize ht : bl m' = t at *
  obtain ⟨K, hK⟩ : ∃ K, prec + 4 = K + u := ⟨prec + 4 - u, by omega⟩
  obtain ⟨D, hD⟩ : ∃ D, off = D + K := ⟨off - K, by omega⟩
  have htD : t < D := by omega
  -- the whole number between
  have hM1 : m.natAbs * 2 ^ (prec + 4) = m.natAbs * 2 ^ K * 2 ^ u := by rw [hK, Nat.pow_add]; grind
  have hM2 : m.natAbs * 2 ^ off = m.natAbs * 2 ^ K * 2 ^ D := by rw [hD, Nat.pow_add]; grind
  have hMp : 2 ^ (prec + 3) ≤ m.natAbs * 2 ^ K := by
    have := Nat.mul_le_mul_right (2 ^ K) b1
    rw [← Nat.pow_add, show u - 1 + K = prec + 3 by omega] at this
    exact this
  have hprec : 2 ^ (prec + 3) = 8 * 2 ^ prec := by rw [Nat.pow_add]; omega
  have hprec0 := two_pos prec
  have hu2 : 2 ≤ 2 ^ u := by
    have : 2 ^ 1 ≤ 2 ^ u := Nat.pow_le_pow_right (by decide) (by omega)
    omega
  have hDt : 2 ^ t ≤ 2 ^ D := Nat.pow_le_pow_right (by decide) (by omega)
  have hm0 : 0 < m'.natAbs := by omega
  rw [hM1, hM2]
  generalize m.natAbs * 2 ^ K = M at *
  obtain ⟨M', hM'⟩ : ∃ M', M = M' + 1 := ⟨M - 1, by omega⟩
  have hMu : M * 2 ^ u = M' * 2 ^ u + 2 ^ u := by rw [hM']; grind
  have hMD : M * 2 ^ D = M' * 2 ^ D + 2 ^ D := by rw [hM']; grind
  have hMu1 : (M + 1) * 2 ^ u = M * 2 ^ u + 2 ^ u := by grind
  have hMD1 : (M + 1) * 2 ^ D = M * 2 ^ D + 2 ^ D := by grind
  have scale : ∀ {x D : Nat} {p p' : Int}, p' = p + D → R w prec (sv (decide (m < 0)) x) 1 p = R w prec (sv (decide (m < 0)) x) (2 ^ D) p' := by
    intro x D p p' h
    refine R_congr (i := 0) (i' := D) hp (by decide) (two_pos D) ?_ (by omega)
    push_cast; simp
  refine ⟨?_, ?_, by omega, by omega⟩
  · rw [scale (D := u) rfl, scale (D := D) (p := e') rfl]
    have e : e' + off - (prec + 4 : Nat) + u = e' + D := by omega
    rw [e]
    exact R_between (N := M) hp (by omega) (by omega) (by omega) (by omega) (by omega)
  · rw [scale (D := u) rfl, scale (D := D) (p := e') rfl]
    have e : e' + off - (prec + 4 : Nat) + u = e' + D := by omega
    rw [e]
    exact R_between (N := M') hp (by omega) (by rw [← hM']; omega) (by omega) (by rw [← hM']; omega) (by omega)

theorem sumN_ge {m e m' e' : Int} (h : e' ≤ e) : sumN m e m' e' = m * 2 ^ (e - e').toNat + m' ∧ min e e' = e' := by
  unfold sumN
  rw [Int.min_eq_right h]; simp
theorem sumN_le {m e m' e' : Int} (h : e ≤ e') : sumN m e m' e' = m + m' * 2 ^ (e' - e).toNat ∧ min e e' = e := by
  unfold sumN
  rw [Int.min_eq_left h]; simp

theorem bl_shl (m : Int) (k : Nat) : bl (m * 2 ^ k) ≤ bl m + k := by
  refine bl_le.mpr ?_
  rw [Int.natAbs_mul, Int.natAbs_pow, Nat.pow_add]
  exact Nat.mul_lt_mul_of_pos_right (bl_le.mp (Nat.le_refl _)) (two_pos k)
theorem bl_add (a b : Int) : bl (a + b) ≤ max (bl a) (bl b) + 1 := intBits_add_le (Nat.le_refl _) (Nat.le_refl _)
theorem abs_mul (m : Int) (k : Nat) : (m < 0 ∧ m * 2 ^ k = -((m.natAbs : Nat) * 2 ^ k)) ∨ (0 ≤ m ∧ m * 2 ^ k = (m.natAbs : Nat) * 2 ^ k) := by
  by_cases h : m < 0
  · left; refine ⟨h, ?_⟩; rw [show ((m.natAbs : Nat) : Int) = -m by omega, Int.neg_mul, Int.neg_neg]
  · right; refine ⟨by omega, ?_⟩; rw [show ((m.natAbs : Nat) : Int) = m by omega]
theorem nn_mul (a k : Nat) : 0 ≤ (a : Int) * 2 ^ k := Int.mul_nonneg (by omega) (Int.le_of_lt (Int.pow_pos (by decide)))

set_option maxHeartbeats 4000000 in
/-- mpf_add, the last argument as the sign of the second -/
theorem add_core (hK : KK cx) {w : Way} {prec : Nat} {m e m₀ e' m' : Int} {sub : Bool} (h : Odd0 m e) (h' : Odd0 m₀ e') (hs : m' = if sub then -m₀ else m₀) (hz : bl m ≤ 2 ^ 20) (hz' : bl m₀ ≤ 2 ^ 20) (he : -(2 ^ 20) ≤ e ∧ e ≤ 2 ^ 20) (he' : -(2 ^ 20) ≤ e' ∧ e' ≤ 2 ^ 20)
    (hq : prec = 0 ∨ (bl m ≤ prec ∧ bl m' ≤ prec ∧ prec ≤ 2 ^ 20) ∨ (bl m + e = bl m' + e')) :
    q_mpf_add cx (valSlots ([mk m e, mk m₀ e', .int prec, .str w.s, .int (sg sub)] ++ []) 12) [] (callPost (.ok (mkr (rz prec w (sumN m e m' e') (min e e'))))) := by
  have hm0 : m' = 0 ↔ m₀ = 0 := by subst hs; split <;> omega
  have hz2 : bl m' = bl m₀ := by subst hs; split; exact bl_neg _; rfl
  have ha2 : m'.natAbs = m₀.natAbs := by subst hs; split <;> omega
  have hts : m₀ ≠ 0 → Builtin.bitXor (sn m₀) (sg sub) = sn m' := by
    intro q
    rw [sn_sg, xor_sg, sn_sg]
    subst hs
    cases sub
    · simp
    · have : (decide (m₀ < 0) != true) = decide (-m₀ < 0) := by by_cases z : m₀ < 0 <;> simp [z] <;> omega
      rw [this]; rfl
  have hts01 : Builtin.bitXor (sn m₀) (sg sub) = 0 ∨ Builtin.bitXor (sn m₀) (sg sub) = 1 := by rw [sn_sg, xor_sg]; cases (decide (m₀ < 0) != sub) <;> simp
  generalize hT : Builtin.bitXor (sn m₀) (sg sub) = ts at hts hts01
  refine s_mpf_add fun R0 h0 => ?_
  walk_at "vc"
  rw [h0]; refine s_mpf_add_1 fun R1 h1 => ?_
  walk_at "vc"
  rw [h1]; refine s_mpf_add_2 fun R2 h2 => ?_
  walk_at "vc"
  rw [hT, h2]; refine s_mpf_add_3 fun R3 h3 => ?_
  generalize hr : (Except.ok (mkr (rz prec w (sumN m e m' e') (min e e'))) : Except Exn PyData) = out
  have sm := sn_def m
  have sm' := sn_def m'
  have sN := sn_def (sumN m e m' e')
  have blk : ∀ x : Nat, bl ((x : Nat) : Int) = bl ((x : Nat) : Int) := fun _ => rfl
  have fq1 : prec ≠ 0 → (prec : Int) + 4 < bl m + e - bl m' - e' → bl m ≤ prec ∧ prec ≤ 2 ^ 20 := by omega
  have fq2 : prec ≠ 0 → (prec : Int) + 4 < bl m' + e' - bl m - e → bl m' ≤ prec ∧ prec ≤ 2 ^ 20 := by omega
  have L : ∀ {s M b P ex : Int}, bl (sumN m e m' e') ≤ 2 ^ 26 → (sumN m e m' e' ≠ 0 → s = sn (sumN m e m' e')) → (s = 0 ∨ s = 1) → M = (sumN m e m' e').natAbs → b = bl M → (P = if prec = 0 then (bl M : Int) else prec) → ex = min e e' →
      ∃ out_1 r, CallOK cx 80 r [.int s, .int M, .int ex, .int b, .int P, .str w.s] out_1 ∧ r < 4 ∧ outQ out_1 (callPost out).rt fun x => out = .error x := by
    intro s M b P ex g1 g2 g3 g4 g5 g6 g7
    subst g4 g5 g7 hr
    exact callI (normZ hK (w := w) (prec := prec) (n := sumN m e m' e') g1 g2 g3 rfl (by rw [bl_natAbs]) (by rw [g6, bl_natAbs]) rfl) (by decide) rfl
  have Lp0 : ∀ {M ex : Int}, bl (sumN m e m' e') ≤ 2 ^ 26 → prec = 0 → sumN m e m' e' = M → 0 ≤ M → ex = min e e' → ∃ out_1 r, CallOK cx 80 r [.int 0, .int M, .int ex, .int (bl M), .int (bl M), .str w.s] out_1 ∧ r < 4 ∧ outQ out_1 (callPost out).rt fun x => out = .error x :=
    fun g1 g2 g3 g4 g5 => L g1 (fun _ => by omega) (.inl rfl) (by omega) rfl (by rw [if_pos g2]) g5
  have Lp1 : ∀ {M ex : Int}, bl (sumN m e m' e') ≤ 2 ^ 26 → ¬ prec = 0 → sumN m e m' e' = M → 0 ≤ M → ex = min e e' → ∃ out_1 r, CallOK cx 80 r [.int 0, .int M, .int ex, .int (bl M), .int prec, .str w.s] out_1 ∧ r < 4 ∧ outQ out_1 (callPost out).rt fun x => out = .error x :=
    fun g1 g2 g3 g4 g5 => L g1 (fun _ => by omega) (.inl rfl) (by omega) rfl (by rw [if_neg g2]) g5
  have Ln0 : ∀ {M ex : Int}, bl (sumN m e m' e') ≤ 2 ^ 26 → prec = 0 → sumN m e m' e' = -M → 0 ≤ M → ex = min e e' → ∃ out_1 r, CallOK cx 80 r [.int 1, .int M, .int ex, .int (bl M), .int (bl M), .str w.s] out_1 ∧ r < 4 ∧ outQ out_1 (callPost out).rt fun x => out = .error x :=
    fun g1 g2 g3 g4 g5 => L g1 (fun _ => by omega) (.inr rfl) (by omega) rfl (by rw [if_pos g2]) g5
  have Ln1 : ∀ {M ex : Int}, bl (sumN m e m' e') ≤ 2 ^ 26 → ¬ prec = 0 → sumN m e m' e' = -M → 0 ≤ M → ex = min e e' → ∃ out_1 r, CallOK cx 80 r [.int 1, .int M, .int ex, .int (bl M), .int prec, .str w.s] out_1 ∧ r < 4 ∧ outQ out_1 (callPost out).rt fun x => out = .error x :=
    fun g1 g2 g3 g4 g5 => L g1 (fun _ => by omega) (.inr rfl) (by omega) rfl (by rw [if_neg g2]) g5
  have SH : ∀ {mm ee mm' ee' : Int} {s M b ex : Int}, s = sn mm → mm ≠ 0 → mm' ≠ 0 → prec ≠ 0 → (bl mm ≤ prec ∧ prec ≤ 2 ^ 20) → 100 < ee - ee' → (prec : Int) + 4 < bl mm + ee - bl mm' - ee' → ex = ee - (prec + 4) → b = bl M →
      ((sn mm' = sn mm ∧ M = (mm.natAbs : Nat) * 2 ^ (prec + 4) + 1) ∨ (¬ sn mm' = sn mm ∧ M = (mm.natAbs : Nat) * 2 ^ (prec + 4) - 1)) →
      rz prec w (mm * 2 ^ (ee - ee').toNat + mm') ee' = rz prec w (sumN m e m' e') (min e e') →
      ∃ out_1 r, CallOK cx 80 r [.int s, .int M, .int ex, .int b, .int prec, .str w.s] out_1 ∧ r < 4 ∧ outQ out_1 (callPost out).rt fun x => out = .error x := by
    intro mm ee mm' ee' s M b ex g0 g1 g2 g3 ⟨g4, g4''⟩ g5 g6 g7 g8 g9 g10
    subst g0
    obtain ⟨f1, f2, f3, f4⟩ := far_ok (w := w) (prec := prec) (off := (ee - ee').toNat) (m := mm) (m' := mm') (e' := ee') (by omega) g1 g2 g4 (by omega)
    have q1 := sn_def mm
    have q2 := sn_def mm'
    have q3 := abs_mul mm (ee - ee').toNat
    have q4 : ((mm.natAbs * 2 ^ (ee - ee').toNat : Nat) : Int) = (mm.natAbs : Nat) * 2 ^ (ee - ee').toNat := by push_cast; rfl
    have q5 : ((mm.natAbs * 2 ^ (prec + 4) : Nat) : Int) = (mm.natAbs : Nat) * 2 ^ (prec + 4) := by push_cast; rfl
    have eex : ee' + (ee - ee').toNat - (prec + 4 : Nat) = ex := by omega
    rw [eex] at f1 f2
    have bb : ∀ x : Nat, x ≤ mm.natAbs * 2 ^ (prec + 4) + 1 → bl (sv (decide (mm < 0)) x) ≤ 2 ^ 26 := by
      intro x hx
      rw [bl_sv]
      have h1 := bl_shl (mm.natAbs : Nat) (prec + 4)
      have h2 := bl_add ((mm.natAbs : Nat) * 2 ^ (prec + 4)) 1
      rw [bl_one] at h2
      rw [bl_natAbs] at h1
      have h3 : bl (x : Int) ≤ bl ((mm.natAbs : Nat) * 2 ^ (prec + 4) + 1 : Int) := bl_le.mpr (Nat.lt_of_le_of_lt (by omega) (bl_le.mp (Nat.le_refl _)))
      omega
    subst hr
    rw [← g10]
    unfold rz
    rw [if_neg g3]
    rcases g9 with ⟨g9, g11⟩ | ⟨g9, g11⟩
    · have e1 : mm * 2 ^ (ee - ee').toNat + mm' = sv (decide (mm < 0)) (mm.natAbs * 2 ^ (ee - ee').toNat + mm'.natAbs) := by
        by_cases hn : mm < 0 <;> simp [sv, hn] <;> omega
      rw [e1, ← f1]
      refine callI (normZ hK (w := w) (prec := prec) (n := sv (decide (mm < 0)) (mm.natAbs * 2 ^ (prec + 4) + 1)) (bb _ (by omega)) (fun _ => ?_) (sn01 _) ?_ ?_ (by rw [if_neg g3]) (by unfold rz; rw [if_neg g3])) (by decide) rfl
      · have := sn_def (sv (decide (mm < 0)) (mm.natAbs * 2 ^ (prec + 4) + 1))
        by_cases hn : mm < 0 <;> simp only [sv, hn, decide_true, decide_false, if_true, Bool.false_eq_true, if_false] at * <;> omega
      · by_cases hn : mm < 0 <;> simp only [sv, hn, decide_true, decide_false, if_true, Bool.false_eq_true, if_false] at * <;> omega
      · rw [g8, bl_sv, g11]; congr 1
    · have e1 : mm * 2 ^ (ee - ee').toNat + mm' = sv (decide (mm < 0)) (mm.natAbs * 2 ^ (ee - ee').toNat - mm'.natAbs) := by
        by_cases hn : mm < 0 <;> simp [sv, hn] <;> omega
      rw [e1, ← f2]
      refine callI (normZ hK (w := w) (prec := prec) (n := sv (decide (mm < 0)) (mm.natAbs * 2 ^ (prec + 4) - 1)) (bb _ (by omega)) (fun _ => ?_) (sn01 _) ?_ ?_ (by rw [if_neg g3]) (by unfold rz; rw [if_neg g3])) (by decide) rfl
      · have := sn_def (sv (decide (mm < 0)) (mm.natAbs * 2 ^ (prec + 4) - 1))
        by_cases hn : mm < 0 <;> simp only [sv, hn, decide_true, decide_false, if_true, Bool.false_eq_true, if_false] at * <;> omega
      · by_cases hn : mm < 0 <;> simp only [sv, hn, decide_true, decide_false, if_true, Bool.false_eq_true, if_false] at * <;> omega
      · rw [g8, bl_sv, g11]; congr 2; omega
  have tail : (m.natAbs = 0 ∨ m'.natAbs = 0) → ∀ {x1 x2 x3 x4 : Slot}, R3 [.val (mk m e), .val (mk m₀ e'), .val (.int prec), .val (.str w.s), .val (.int (sg sub)), .val (.int (sn m)), .val (.int m.natAbs), .val (.int e), .val (.int (bl m)), .val (.int ts), .val (.int m'.natAbs), .val (.int e'), .val (.int (bl m')), x1, x2, x3, x4] [] (callPost out) := by
    intro hzz x1 x2 x3 x4
    have o1 : m = 0 → e = 0 := fun q => by rcases h with h | h <;> omega
    have o2 : m' = 0 → e' = 0 := fun q => by rcases h' with h | h <;> omega
    have vm : m = 0 → rz prec w (sumN m e m' e') (min e e') = rz prec w m' e' := by
      intro q
      refine rz_congr (i := 0) (i' := (e' - min e e').toNat) ?_ (by omega)
      unfold sumN; rw [q]; simp
    have vm' : m' = 0 → rz prec w (sumN m e m' e') (min e e') = rz prec w m e := by
      intro q
      refine rz_congr (i := 0) (i' := (e - min e e').toNat) ?_ (by omega)
      unfold sumN; rw [q]; simp
    have after : q_mpf_add_5 cx [.val (mk m e), .val (mk m' e'), .val (.int prec), .val (.str w.s), .val (.int (sg sub)), .val (.int (sn m)), .val (.int m.natAbs), .val (.int e), .val (.int (bl m)), .val (.int ts), .val (.int m'.natAbs), .val (.int e'), .val (.int (bl m')), x1, x2, x3, x4] [] (callPost out) := by
      refine s_mpf_add_5 fun R5 h5 => ?_
      walk_at "vc"
      refine ⟨fun hm => ⟨fun he => absurd (o1 (by omega)) he, fun he => ⟨fun hm' => ?_, fun hm' => ?_⟩⟩, fun hm => ?_⟩
      · have e2 := vm (by omega)
        subst hr
        have z := fun {P : Int} (hP : P = if prec = 0 then (bl m' : Int) else prec) => normZ hK (w := w) (prec := prec) (n := m') (exp := e') (s := ts) (M := m'.natAbs) (b := bl m') (P := P) (X := rz prec w (sumN m e m' e') (min e e')) (by omega) (fun _ => hts (by omega)) (by omega) rfl rfl hP e2.symm
        exact ⟨fun hp => callI (z (by rw [if_neg hp])) (by decide) rfl, fun hp => callI (z (by rw [if_pos hp])) (by decide) rfl⟩
      · have e2 := vm (by omega)
        have z1 : m' = 0 := by omega
        subst hr; rw [e2, o2 z1, z1, rz_zero]
      · have z1 : m' = 0 := by omega
        have e2 := vm' z1
        rw [h5]; refine s_mpf_add_6 fun R6 h6 => ?_
        walk_at "vc"
        refine ⟨fun he => absurd (o2 z1) he, fun _ => ?_⟩
        rw [h6]; refine s_mpf_add_7 fun R7 h7 => ?_
        walk_at "vc"
        refine ⟨fun _ => ?_, fun q => absurd q hm⟩
        subst hr
        have z := fun {P : Int} (hP : P = if prec = 0 then (bl m : Int) else prec) => normZ hK (w := w) (prec := prec) (n := m) (exp := e) (s := sn m) (M := m.natAbs) (b := bl m) (P := P) (X := rz prec w (sumN m e m' e') (min e e')) (by omega) (fun _ => rfl) (sn01 m) rfl rfl hP e2.symm
        exact ⟨fun hp => callI (z (by rw [if_neg hp])) (by decide) rfl, fun hp => callI (z (by rw [if_pos hp])) (by decide) rfl⟩
    rw [h3]; refine s_mpf_add_4 fun R4 h4 => ?_
    walk_at "vc"
    cases sub
    · refine ⟨fun q => absurd rfl q, fun _ => ?_⟩
      rw [h4]
      have : m' = m₀ := hs
      rw [← this]; exact after
    · refine ⟨fun _ => ?_, fun q => absurd q (by decide)⟩
      have : m' = -m₀ := hs
      refine callI (neg1_ok hK h' (by omega)) (by decide) ?_
      rw [h4, ← this]; exact after
  walk_at "vc"
  simp only [← ha2, ← hz2]
  rw [bl_natAbs, bl_natAbs]
  refine ⟨fun hm => ⟨fun hm' => ?_, fun hm' => ?_⟩, fun hm => ?_⟩
  · have hts' := hts (by omega)
    subst hts'
    have hz3 : bl m' ≤ 2 ^ 20 := by omega
    clear hq sN hts01 hts hs hm0 hz2 ha2 blk tail h h' L
    rcases Int.lt_trichotomy e e' with hl | hl | hl
    · obtain ⟨n1, n2⟩ := sumN_le (m := m) (m' := m') (Int.le_of_lt hl)
      have ek : (-(e - e')).toNat = (e' - e).toNat := by omega
      have eP : ((prec : Int) + 4).toNat = prec + 4 := by omega
      rw [ek, eP]
      have q3 := abs_mul m' (e' - e).toNat
      have q4 := nn_mul m'.natAbs (e' - e).toNat
      have hbig : bl (sumN m e m' e') ≤ 2 ^ 26 := by
        rw [n1]
        have h1 := bl_shl m' (e' - e).toNat
        have h2 := bl_add m (m' * 2 ^ (e' - e).toNat)
        omega
      simp only [show (e - e' = 0) = False from eq_false (by omega), show (0 < e - e') = False from eq_false (by omega), show (e - e' < 0) = True from eq_true (by omega), not_true_eq_false, not_false_eq_true, true_implies, false_implies, implies_true, and_true, true_and]
      rcases sm with ⟨sm1, sm2⟩ | ⟨sm1, sm2⟩ <;> rcases sm' with ⟨sm1', sm2'⟩ | ⟨sm1', sm2'⟩
      all_goals rw [sm2, sm2']
      all_goals
        first
        | have t1 : (0 ≤ m) = False := eq_false (by omega)
        | have t1 : (0 ≤ m) = True := eq_true (by omega)
      all_goals
        first
        | have t2 : (0 ≤ m') = False := eq_false (by omega)
        | have t2 : (0 ≤ m') = True := eq_true (by omega)
      all_goals simp only [t1, t2, not_true_eq_false, not_false_eq_true, true_implies, false_implies, implies_true, and_true, true_and, show ((1 : Int) = 0) = False by simp, show ((0 : Int) = 1) = False by simp]
      all_goals repeat' (first | apply And.intro | intro _)
      all_goals first
        | exact Lp1 hbig (by assumption) (by omega) (by omega) n2.symm
        | exact Lp0 hbig (by assumption) (by omega) (by omega) n2.symm
        | exact Ln1 hbig (by assumption) (by omega) (by omega) n2.symm
        | exact Ln0 hbig (by assumption) (by omega) (by omega) n2.symm
        | exact SH (mm := m') (ee := e') (mm' := m) (ee' := e) (by omega) (by omega) (by omega) (by assumption) (fq2 (by assumption) (by assumption)) (by omega) (by omega) (by omega) rfl (by omega) (by rw [n1, n2, Int.add_comm])
        | omega
    · subst hl
      obtain ⟨n1, n2⟩ := sumN_le (m := m) (m' := m') (Int.le_refl e)
      rw [show (e - e).toNat = 0 by omega, Int.pow_zero, Int.mul_one] at n1
      have hbig : bl (sumN m e m' e) ≤ 2 ^ 26 := by
        rw [n1]
        have h2 := bl_add m m'
        omega
      simp only [show (e - e = 0) = True from eq_true (by omega), not_true_eq_false, not_false_eq_true, true_implies, false_implies, implies_true, and_true, true_and]
      rcases sm with ⟨sm1, sm2⟩ | ⟨sm1, sm2⟩ <;> rcases sm' with ⟨sm1', sm2'⟩ | ⟨sm1', sm2'⟩
      all_goals rw [sm2, sm2']
      all_goals
        first
        | have t1 : (0 ≤ m) = False := eq_false (by omega)
        | have t1 : (0 ≤ m) = True := eq_true (by omega)
      all_goals
        first
        | have t2 : (0 ≤ m') = False := eq_false (by omega)
        | have t2 : (0 ≤ m') = True := eq_true (by omega)
      all_goals simp only [t1, t2, not_true_eq_false, not_false_eq_true, true_implies, false_implies, implies_true, and_true, true_and, show ((1 : Int) = 0) = False by simp, show ((0 : Int) = 1) = False by simp]
      all_goals repeat' (first | apply And.intro | intro _)
      all_goals first
        | exact Lp1 hbig (by assumption) (by omega) (by omega) n2.symm
        | exact Lp0 hbig (by assumption) (by omega) (by omega) n2.symm
        | exact Ln1 hbig (by assumption) (by omega) (by omega) n2.symm
        | exact Ln0 hbig (by assumption) (by omega) (by omega) n2.symm
        | omega
    · obtain ⟨n1, n2⟩ := sumN_ge (m := m) (m' := m') (Int.le_of_lt hl)
      have eP : ((prec : Int) + 4).toNat = prec + 4 := by omega
      rw [eP]
      have q3 := abs_mul m (e - e').toNat
      have q4 := nn_mul m.natAbs (e - e').toNat
      have hbig : bl (sumN m e m' e') ≤ 2 ^ 26 := by
        rw [n1]
        have h1 := bl_shl m (e - e').toNat
        have h2 := bl_add (m * 2 ^ (e - e').toNat) m'
        omega
      simp only [show (e - e' = 0) = False from eq_false (by omega), show (0 < e - e') = True from eq_true (by omega), not_true_eq_false, not_false_eq_true, true_implies, false_implies, implies_true, and_true, true_and]
      rcases sm with ⟨sm1, sm2⟩ | ⟨sm1, sm2⟩ <;> rcases sm' with ⟨sm1', sm2'⟩ | ⟨sm1', sm2'⟩
      all_goals rw [sm2, sm2']
      all_goals
        first
        | have t1 : (0 ≤ m) = False := eq_false (by omega)
        | have t1 : (0 ≤ m) = True := eq_true (by omega)
      all_goals
        first
        | have t2 : (0 ≤ m') = False := eq_false (by omega)
        | have t2 : (0 ≤ m') = True := eq_true (by omega)
      all_goals simp only [t1, t2, not_true_eq_false, not_false_eq_true, true_implies, false_implies, implies_true, and_true, true_and, show ((1 : Int) = 0) = False by simp, show ((0 : Int) = 1) = False by simp]
      all_goals repeat' (first | apply And.intro | intro _)
      all_goals first
        | exact Lp1 hbig (by assumption) (by omega) (by omega) n2.symm
        | exact Lp0 hbig (by assumption) (by omega) (by omega) n2.symm
        | exact Ln1 hbig (by assumption) (by omega) (by omega) n2.symm
        | exact Ln0 hbig (by assumption) (by omega) (by omega) n2.symm
        | exact SH (mm := m) (ee := e) (mm' := m') (ee' := e') (by omega) (by omega) (by omega) (by assumption) (fq1 (by assumption) (by assumption)) (by omega) (by omega) (by omega) rfl (by omega) (by rw [n1, n2])
        | omega
  · exact tail (.inr hm')
  · exact tail (.inl hm)
end Mine

namespace Mine
open PySem PySem.W PySem.Calls PyProof.Rows PySem.Spec
variable {cx : Cx}
local macro_rules | `(tactic| walk_at "vc") => `(tactic| simp only [tSeq, tSet, tIf, tRet, tSkip, tAug, tAssert, tBin, tTest, tName, tInt, tGlob, tStr, tBool, tNone, tTruth, tNotT, tTrue, tFalse, tAndT, tOrT, tIfE, tNeg, tNot, tOr, tAnd, tNil, tCons, tTup, tList, tSub, tDict, tBl, tB, tCall, tTypeIs, tIsInt, tUnpack, tUnpackR, tBrk, tCont, tRaise,
  slotQ, boolQ, truthQ, intQ, tupQ_tuple, listQ, strQ, subQ_tuple, subQ_list, subQ_str, idxQ, kI, kB, kAbs, kInt, kMin, kMax, kDivmod, setAll_cons, setAll_nil, outQ_ok, outQ_err, callPost_rt, callPost_nx, callPost_xx, turnP, kEq_int, kNe_int, kEq_n, kEq_f, kEq_c, kEq_u, kEq_p4, kNe_p4,
  List.getD_cons_zero, List.getD_cons_succ, List.set_cons_zero, List.set_cons_succ, valSlots, List.map_cons, List.map_nil, List.nil_append, List.cons_append, List.append_nil, List.replicate_succ, List.replicate_zero, List.length_cons, List.length_nil,
  true_and, and_true, bne_iff_ne, ne_eq, Bool.not_eq_true', Bool.not_eq_false', decide_eq_true_eq, decide_eq_false_iff_not, beq_iff_eq, beq_eq_false_iff_ne, bne_eq_false_iff_eq, Decidable.not_not, true_implies, Bool.true_eq_false, Bool.false_eq_true, false_implies, implies_true, not_true_eq_false, not_false_eq_true, reduceCtorEq, ok_inj, err_inj, tupQ_mk, subQ_mk, kEq_mk, sn_z, natAbs_z, natCast_z])
theorem add4_ok (hK : KK cx) {w : Way} {prec : Nat} {m e m' e' : Int} (h : Odd0 m e) (h' : Odd0 m' e') (hz : bl m ≤ 2 ^ 20) (hz' : bl m' ≤ 2 ^ 20) (he : -(2 ^ 20) ≤ e ∧ e ≤ 2 ^ 20) (he' : -(2 ^ 20) ≤ e' ∧ e' ≤ 2 ^ 20)
    (hq : prec = 0 ∨ (bl m ≤ prec ∧ bl m' ≤ prec ∧ prec ≤ 2 ^ 20) ∨ (bl m + e = bl m' + e')) :
    CallOK cx 230 4 [mk m e, mk m' e', .int prec, .str w.s] (.ok (mkr (rz prec w (sumN m e m' e') (min e e')))) :=
  w_mpf_add4 hK rfl (add_core hK (sub := false) h h' rfl hz hz' he he' hq)
theorem add2_ok (hK : KK cx) {m e m' e' : Int} (h : Odd0 m e) (h' : Odd0 m' e') (hz : bl m ≤ 2 ^ 20) (hz' : bl m' ≤ 2 ^ 20) (he : -(2 ^ 20) ≤ e ∧ e ≤ 2 ^ 20) (he' : -(2 ^ 20) ≤ e' ∧ e' ≤ 2 ^ 20) :
    CallOK cx 230 4 [mk m e, mk m' e'] (.ok (mkr (St (sumN m e m' e') (min e e')))) := by
  have := add_core hK (w := .d) (prec := 0) (sub := false) h h' rfl hz hz' he he' (.inl rfl)
  unfold rz at this; rw [if_pos rfl] at this
  exact w_mpf_add2 (args := [mk m e, mk m' e']) hK rfl this
theorem add5_ok (hK : KK cx) {w : Way} {prec : Nat} {m e m' e' : Int} (h : Odd0 m e) (h' : Odd0 m' e') (hz : bl m ≤ 2 ^ 20) (hz' : bl m' ≤ 2 ^ 20) (he : -(2 ^ 20) ≤ e ∧ e ≤ 2 ^ 20) (he' : -(2 ^ 20) ≤ e' ∧ e' ≤ 2 ^ 20)
    (hq : prec = 0 ∨ (bl m ≤ prec ∧ bl m' ≤ prec ∧ prec ≤ 2 ^ 20) ∨ (bl m + e = bl m' + e')) :
    CallOK cx 230 4 [mk m e, mk m' e', .int prec, .str w.s, .int 1] (.ok (mkr (rz prec w (sumN m e (-m') e') (min e e')))) :=
  w_mpf_add5 hK rfl (add_core hK (sub := true) h h' rfl hz hz' he he' (by rw [bl_neg]; exact hq))
theorem subt_ok (hK : KK cx) {w : Way} {prec : Nat} {m e m' e' : Int} (h : Odd0 m e) (h' : Odd0 m' e') (hz : bl m ≤ 2 ^ 20) (hz' : bl m' ≤ 2 ^ 20) (he : -(2 ^ 20) ≤ e ∧ e ≤ 2 ^ 20) (he' : -(2 ^ 20) ≤ e' ∧ e' ≤ 2 ^ 20)
    (hq : prec = 0 ∨ (bl m ≤ prec ∧ bl m' ≤ prec ∧ prec ≤ 2 ^ 20) ∨ (bl m + e = bl m' + e')) :
    CallOK cx 238 5 [mk m e, mk m' e', .int prec, .str w.s] (.ok (mkr (rz prec w (sumN m e (-m') e') (min e e')))) := by
  refine w_mpf_sub4 hK rfl ?_
  unfold q_mpf_sub
  walk_at "vc"
  exact callI (add5_ok hK h h' hz hz' he he' hq) (by decide) rfl

/-- from_man_exp without a precision -/
theorem fme0_ok (hK : KK cx) {n exp : Int} :
    CallOK cx 88 3 [.int n, .int exp, .int 0, .str (Str.ofString "d")] (.ok (mkr (St n exp))) := by
  refine w_from_man_exp4 hK rfl (s_from_man_exp fun R0 h0 => ?_)
  walk_at "vc"
  rw [h0]; refine s_from_man_exp_1 fun R1 h1 => ?_
  walk_at "vc"
  rw [h1]; refine s_from_man_exp_2 fun R2 h2 => ?_
  have fin : ∀ {s M : Int} {x : Slot}, s = sn n → M = n.natAbs → R2 [.val (.int M), .val (.int exp), .val (.int 0), .val (.str (Str.ofString "d")), .val (.int s), .undef, x] [] (callPost (.ok (mkr (St n exp)))) := by
    intro s M x hs hM
    rw [h2]; refine s_from_man_exp_3 fun R3 h3 => ?_
    walk_at "vc"
    rw [h3]; refine s_from_man_exp_4 fun R4 h4 => ?_
    walk_at "vc"
    by_cases hn : n = 0
    · refine ⟨fun _ => by rw [hn, St_zero]; exact mk_zero, fun q => absurd (by omega) q⟩
    · refine ⟨fun q => absurd q (by omega), fun _ => ?_⟩
      obtain ⟨k, g1, g2, g3⟩ := St_val (p := exp) hn
      rw [bitAnd_m1, bitAnd_two]
      have hS : mkr (St n exp) = p4 (sn (St n exp).1) ((St n exp).1.natAbs : Nat) (exp + k) (bl (St n exp).1 : Nat) := by rw [← g2]; rfl
      rw [hS]
      have sS := sn_def (St n exp).1
      generalize (St n exp).1 = m at *
      have sN := sn_def n
      have e1 := abs_mul m k
      have e2 := nn_mul m.natAbs k
      have hsn : sn m = s := by
        subst hs
        have : (0 : Int) < 2 ^ k := Int.pow_pos (by decide)
        rcases e1 with ⟨h1, h2⟩ | ⟨h1, h2⟩
        · have := Int.mul_neg_of_neg_of_pos h1 this; omega
        · omega
      have hMk : M = ((m.natAbs * 2 ^ k : Nat) : Int) := by push_cast; omega
      have hbl : bl M = bl m + k := by rw [hMk, bl_mul_pow (by omega), bl_natAbs]
      rw [hsn]
      have kk : k = 0 ∨ k = 1 ∨ 2 ≤ k := by omega
      rcases kk with rfl | rfl | hk2
      · rw [Nat.pow_zero, Nat.mul_one] at hMk
        refine ⟨fun q => absurd q (by omega), fun _ => ⟨by simp, ?_⟩⟩
        rw [hbl, hMk]; simp
      · refine ⟨fun _ => ⟨fun _ => ⟨by omega, by simp, ?_⟩, fun q => absurd q (by omega)⟩, fun q => absurd q (by omega)⟩
        rw [show Int.toNat 1 = 1 from rfl, hbl]
        have : M.fdiv (2 ^ 1) = m.natAbs := by rw [hMk, fdiv_nat, Nat.mul_div_cancel _ (two_pos 1)]
        rw [this]
        have e5 : ((bl m + 1 : Nat) : Int) - 1 = bl m := by omega
        rw [e5]; rfl
      · have h4 : (2 : Nat) ^ k = 4 * 2 ^ (k - 2) := by conv => lhs; rw [show k = (k - 2) + 2 by omega, Nat.pow_add]
                                                        omega
        have h5 : M = 4 * ((m.natAbs * 2 ^ (k - 2) : Nat) : Int) := by
          rw [hMk, h4]; push_cast; grind
        refine ⟨fun _ => ⟨fun q => absurd (by omega) q, fun _ => ?_⟩, fun q => absurd q (by omega)⟩
        refine callI (trailing_ok hK (m := m.natAbs) (k := k) (by omega) (by rw [hMk]; push_cast; rfl)) (by decide) ?_
        walk_at "vc"
        refine ⟨by omega, by simp, ?_⟩
        rw [hbl, hMk, Int.toNat_natCast, fdiv_nat, Nat.mul_div_cancel _ (two_pos k)]
        have e5 : ((bl m + k : Nat) : Int) - k = bl m := by omega
        rw [e5]
  walk_at "vc"
  have := sn_def n
  exact ⟨fun h => fin (by omega) (by omega), fun h => fin (by omega) (by omega)⟩
theorem from_int1_ok (hK : KK cx) {n : Int} : CallOK cx 96 4 [.int n] (.ok (mkr (St n 0))) := by
  refine w_from_int1 hK rfl ?_
  unfold q_from_int
  walk_at "vc"
  exact callI (fme0_ok hK) (by decide) rfl

/-! values at a common power -/
def atB (B : Int) (n p : Int) : Int := n * 2 ^ (p - B).toNat
theorem atB_shift {B B' n p : Int} (h : B' ≤ B) (h' : B ≤ p) : atB B' n p = atB B n p * 2 ^ (B - B').toNat := by
  unfold atB
  rw [Int.mul_assoc, ← Int.pow_add]
  congr 2; omega
theorem atB_self {n p : Int} : atB p n p = n := by unfold atB; simp
theorem atB_sum {B m e m' e' : Int} (h : B ≤ e) (h' : B ≤ e') : atB B (sumN m e m' e') (min e e') = atB B m e + atB B m' e' := by
  rw [atB_shift (B := min e e') (n := m) (by omega) (by omega), atB_shift (B := min e e') (n := m') (by omega) (by omega), ← Int.add_mul]
  rfl
theorem rz_at {prec w} {B n p n' p' : Int} (h : B ≤ p) (h' : B ≤ p') (he : atB B n p = atB B n' p') : rz prec w n p = rz prec w n' p' :=
  rz_congr (i := (p - B).toNat) (i' := (p' - B).toNat) he (by omega)
theorem St_at {B n p : Int} (h : B ≤ p) : B ≤ (St n p).2 ∨ n = 0 := by
  by_cases hn : n = 0
  · exact .inr hn
  · obtain ⟨k, _, h2, _⟩ := St_val (p := p) hn
    left; omega
theorem atB_St {B n p : Int} (h : B ≤ p) : atB B (St n p).1 (St n p).2 = atB B n p := by
  by_cases hn : n = 0
  · rw [hn, St_zero]; simp [atB]
  · obtain ⟨k, h1, h2, _⟩ := St_val (p := p) hn
    rw [atB_shift (B := p) h (by omega), atB_shift (B := p) (p := p) h (by omega), atB_self]
    congr 1
    unfold atB
    rw [h2, show (p + k - p).toNat = k by omega, ← h1]

theorem sumN_ge' {m e m' e' : Int} (h : e ≤ e') : sumN m e m' e' = m + m' * 2 ^ (e' - e).toNat ∧ min e e' = e := sumN_le h
theorem sumN_gt' {m e m' e' : Int} (h : ¬ e ≤ e') : sumN m e m' e' = m * 2 ^ (e - e').toNat + m' ∧ min e e' = e' := sumN_ge (by omega)
theorem tFor_intro {j : Nat} {t : Tr} {b : Tx} {ρ : List Slot} {σ : List (List PyData)} {P : Post} {ds : List PyData} (ht : ∀ Q X, Q (.list ds) → t ρ σ Q X) (I : Nat → List Slot → List (List PyData) → Prop) (h0 : I 0 ρ σ)
    (turn : ∀ k d, ds[k]? = some d → ∀ ρ σ, I k ρ σ → b (ρ.set j (.val d)) σ (turnP P (I (k + 1)))) (fin : ∀ ρ σ, I ds.length ρ σ → P.nx ρ σ) : tFor j t b ρ σ P := ht _ _ ⟨I, h0, turn, fin⟩
theorem tWhile_intro {c : Tt} {b : Tx} {ρ : List Slot} {σ : List (List PyData)} {P : Post} (I : Nat → List Slot → List (List PyData) → Prop) (n : Nat) (h0 : I n ρ σ)
    (turn : ∀ n ρ σ, I n ρ σ → c ρ σ (fun x => (x = true → b ρ σ (turnP P fun ρ σ => ∃ m, m < n ∧ I m ρ σ)) ∧ (x = false → P.nx ρ σ)) (fun _ => False)) : tWhile c b ρ σ P := ⟨I, ⟨n, h0⟩, turn⟩
/-- the sum of a row -/
def rowSum : List (Int × Int) → Int × Int → Int × Int
  | [], a => a
  | x :: r, a => rowSum r (if x.1 = 0 then a else (sumN a.1 a.2 x.1 x.2, min a.2 x.2))
theorem rowSum_take (l : List (Int × Int)) : ∀ (a : Int × Int) (k : Nat) (x : Int × Int), l[k]? = some x → rowSum (l.take (k + 1)) a = (let b := rowSum (l.take k) a; if x.1 = 0 then b else (sumN b.1 b.2 x.1 x.2, min b.2 x.2)) := by
  induction l with
  | nil => intro a k x h; simp at h
  | cons y r ih =>
    intro a k x h
    cases k with
    | zero => simp at h; subst h; rfl
    | succ k => rw [List.take_succ_cons, List.take_succ_cons]; exact ih _ k x (by simpa using h)
def SumI (L : PyData) (A : Int × Int) (bd : Nat) : List Slot → List (List PyData) → Prop := fun ρ σ => σ = [] ∧ (∃ x8 x9 x10 x11 x12 x13, ρ = [.val L, .val (.int 0), .val (.str (Str.ofString "d")), .val (.bool false), .val (.int A.1), .val (.int A.2), .val (.int 1000000), .val .none, x8, x9, x10, x11, x12, x13]) ∧ bl A.1 ≤ bd ∧ -(2 ^ 16) ≤ A.2 ∧ A.2 ≤ 0
theorem SumI.mk {L : PyData} {A : Int × Int} {bd : Nat} {man ex : Int} {x8 x9 x10 x11 x12 x13 : Slot} (h : (man, ex) = A) (hb : bl man ≤ bd) (h1 : -(2 ^ 16) ≤ ex) (h2 : ex ≤ 0) :
    SumI L A bd [.val L, .val (.int 0), .val (.str (Str.ofString "d")), .val (.bool false), .val (.int man), .val (.int ex), .val (.int 1000000), .val .none, x8, x9, x10, x11, x12, x13] [] := by
  subst h; exact ⟨rfl, ⟨_, _, _, _, _, _, rfl⟩, hb, h1, h2⟩
theorem sum_ok (hK : KK cx) {l : List (Int × Int)} (hl : l.length ≤ 4) (h : ∀ x ∈ l, Odd0 x.1 x.2 ∧ bl x.1 ≤ 2 ^ 16 ∧ -(2 ^ 16) ≤ x.2 ∧ x.2 ≤ 2 ^ 16) :
    CallOK cx 246 5 [.list (l.map mkr)] (.ok (mkr (St (rowSum l (0, 0)).1 (rowSum l (0, 0)).2))) := by
  refine w_mpf_sum1 hK rfl (s_mpf_sum fun R0 h0 => ?_)
  walk_at "vc"
  rw [h0]; refine s_mpf_sum_1 fun R1 h1 => ?_
  walk_at "vc"
  rw [h1]; refine s_mpf_sum_2 fun R2 h2 => ?_
  walk_at "vc"
  refine ⟨⟨by decide, by decide⟩, fun q => absurd rfl q, fun _ => ?_⟩
  rw [h2]; refine s_mpf_sum_3 fun R3 h3 => ?_
  walk_at "vc"
  rw [h3]; refine s_mpf_sum_4 fun R4 h4 => ?_
  unfold tSeq
  refine tFor_intro (ds := l.map mkr) (fun Q X h => h) (fun k => SumI (.list (l.map mkr)) (rowSum (l.take k) (0, 0)) (131072 + k * 262144)) ?_ ?_ ?_
  · exact SumI.mk rfl (by rw [bl_zero]; omega) (by decide) (by decide)
  · rintro k d hd ρ σ ⟨rfl, ⟨x8, x9, x10, x11, x12, x13, rfl⟩, hb, he1, he2⟩
    rw [List.getElem?_map] at hd
    obtain ⟨x, hx, rfl⟩ := Option.map_eq_some_iff.mp hd
    obtain ⟨o1, o2, o3, o4⟩ := h x (List.mem_of_getElem? hx)
    have hk : k < l.length := (List.getElem?_eq_some_iff.mp hx).1
    have hst := rowSum_take l (0, 0) k x hx
    dsimp only at hst
    rw [hst]
    generalize rowSum (l.take k) (0, 0) = a at *
    generalize PyData.list (l.map mkr) = LL
    obtain ⟨a1, a2⟩ := a
    obtain ⟨m, e⟩ := x
    dsimp only at *
    unfold mkr
    walk_at "vc"
    rw [Nat.succ_mul]
    have hkk : k * 262144 ≤ 1000000 := by have := Nat.mul_le_mul_right 262144 (show k ≤ 3 by omega); omega
    generalize k * 262144 = kk at *
    have q1 := sn_def m
    by_cases hm : m = 0
    · have he : e = 0 := by rcases o1 with h | h <;> omega
      rw [if_pos hm]
      have hb2 : bl a1 ≤ 131072 + (kk + 262144) := by omega
      have hm0 : m.natAbs = 0 := by omega
      constructor
      · intro q; exact absurd hm0 q
      · intro _
        constructor
        · intro q; exact absurd he q
        · intro _
          exact SumI.mk rfl hb2 he1 he2
    · rw [if_neg hm]
      have hbm : bl (m * 1) ≤ 2 ^ 16 := by rw [Int.mul_one]; exact o2
      have f1 := bl_shl m (e - a2).toNat
      have f2 := bl_shl a1 (a2 - e).toNat
      have f3 := bl_add a1 (m * 2 ^ (e - a2).toNat)
      have f4 := bl_add (a1 * 2 ^ (a2 - e).toNat) m
      have hne : (-(e - a2)).toNat = (a2 - e).toNat := by omega
      rw [hne]
      have go : ∀ {M : Int} {s9 s10 s11 s12 s13 : Slot}, M = m → (a2 ≤ e → SumI LL (sumN a1 a2 m e, min a2 e) (131072 + (kk + 262144)) [.val LL, .val (.int 0), .val (.str (Str.ofString "d")), .val (.bool false), .val (.int (a1 + M * 2 ^ (e - a2).toNat)), .val (.int a2), .val (.int 1000000), .val .none, .val (mk m e), s9, s10, s11, s12, s13] []) ∧
          (¬ a2 ≤ e → SumI LL (sumN a1 a2 m e, min a2 e) (131072 + (kk + 262144)) [.val LL, .val (.int 0), .val (.str (Str.ofString "d")), .val (.bool false), .val (.int (a1 * 2 ^ (a2 - e).toNat + M)), .val (.int e), .val (.int 1000000), .val .none, .val (mk m e), s9, s10, s11, s12, s13] []) := by
        intro M s9 s10 s11 s12 s13 hM
        subst hM
        constructor
        · intro q
          obtain ⟨n1, n2⟩ := sumN_ge' (m := a1) (m' := M) q
          exact SumI.mk (by rw [n1, n2]) (by omega) (by omega) (by omega)
        · intro q
          obtain ⟨n1, n2⟩ := sumN_gt' (m := a1) (m' := M) q
          exact SumI.mk (by rw [n1, n2]) (by omega) (by omega) (by omega)
      have hb0 := bl_natAbs m
      have hbn : bl (-(m.natAbs : Int)) = bl m := by rw [bl_neg, bl_natAbs]
      refine ⟨fun _ => ⟨fun hs => ⟨fun q => ⟨fun z => absurd z (by omega), fun z => ⟨⟨by omega, by omega⟩, (go (by omega)).1 q⟩⟩, fun q => ⟨fun z => absurd z (by omega), fun z => ⟨⟨by omega, by omega⟩, (go (by omega)).2 q⟩⟩⟩,
        fun hs => ⟨fun q => ⟨fun z => absurd z (by omega), fun z => ⟨⟨by omega, by omega⟩, (go (by omega)).1 q⟩⟩, fun q => ⟨fun z => absurd z (by omega), fun z => ⟨⟨by omega, by omega⟩, (go (by omega)).2 q⟩⟩⟩⟩, fun q => absurd q (by omega)⟩
  · rintro ρ σ ⟨rfl, ⟨x8, x9, x10, x11, x12, x13, rfl⟩, hb, he1, he2⟩
    dsimp only
    rw [h4]; refine s_mpf_sum_5 fun R5 h5 => ?_
    walk_at "vc"
    rw [h5]; unfold q_mpf_sum_6
    walk_at "vc"
    rw [List.length_map, List.take_length]
    exact callI (fme0_ok hK) (by decide) rfl
end Mine

namespace Mine
open PySem PySem.W PySem.Calls PyProof.Rows PySem.Spec
variable {cx : Cx}
theorem mm_eq {m e m' e' : Int} : (sn m == sn m' && ((m.natAbs : Int) == m'.natAbs && (e == e' && (bl m : Int) == bl m'))) = (decide (m = m') && decide (e = e')) := by
  have := sn_def m; have := sn_def m'
  rw [Bool.eq_iff_iff]
  simp only [Bool.and_eq_true, beq_iff_eq, decide_eq_true_eq]
  constructor
  · rintro ⟨h1, h2, h3, _⟩; exact ⟨by omega, h3⟩
  · rintro ⟨rfl, rfl⟩; exact ⟨rfl, rfl, rfl, rfl⟩
theorem kEq_mm {m e m' e' : Int} {Q : PyData → Prop} : kEq (mk m e) (mk m' e') Q = Q (.bool (decide (m = m') && decide (e = e'))) := by
  rw [← mm_eq]; exact kEq_p4
theorem kNe_mm {m e m' e' : Int} {Q : PyData → Prop} : kNe (mk m e) (mk m' e') Q = Q (.bool (!(decide (m = m') && decide (e = e')))) := by
  rw [← mm_eq]; exact kNe_p4
theorem bl_m1 {m : Int} : ((bl m : Int) == -1) = false := beq_eq_false_iff_ne.mpr (by omega)
theorem bl_m2 {m : Int} : ((bl m : Int) == -2) = false := beq_eq_false_iff_ne.mpr (by omega)
theorem bl_m3 {m : Int} : ((bl m : Int) == -3) = false := beq_eq_false_iff_ne.mpr (by omega)
theorem idx_of {ds : List PyData} {k : Int} {x : PyData} {Q : PyData → Prop} (h0 : 0 ≤ k) (h1 : k < 1000000) (h : ds[k.toNat]? = some x) : idxQ ds k Q = Q x :=
  propext ⟨fun ⟨_, _, d, e, q⟩ => by rw [h] at e; rw [Option.some.inj e]; exact q, fun q => ⟨h0, h1, x, h, q⟩⟩
theorem subQ_t0 {x : PyData} {r : List PyData} {Q : PyData → Prop} : subQ (.tuple (x :: r)) (.int 0) Q = Q x := idx_of (by decide) (by decide) rfl
theorem subQ_t1 {x y : PyData} {r : List PyData} {Q : PyData → Prop} : subQ (.tuple (x :: y :: r)) (.int 1) Q = Q y := idx_of (by decide) (by decide) rfl
theorem subQ_l0 {x : PyData} {r : List PyData} {Q : PyData → Prop} : subQ (.list (x :: r)) (.int 0) Q = Q x := idx_of (by decide) (by decide) rfl
theorem subQ_m0 {m e : Int} {Q : PyData → Prop} : subQ (mk m e) (.int 0) Q = Q (.int (sn m)) := subQ_t0
theorem subQ_m1 {m e : Int} {Q : PyData → Prop} : subQ (mk m e) (.int 1) Q = Q (.int (m.natAbs : Nat)) := subQ_t1
local macro_rules | `(tactic| walk_at "vc") => `(tactic| simp only [tSeq, tSet, tIf, tRet, tSkip, tAug, tAssert, tBin, tTest, tName, tInt, tGlob, tStr, tBool, tNone, tTruth, tNotT, tTrue, tFalse, tAndT, tOrT, tIfE, tNeg, tNot, tOr, tAnd, tNil, tCons, tTup, tList, tSub, tDict, tBl, tB, tCall, tTypeIs, tIsInt, tUnpack, tUnpackR, tBrk, tCont, tRaise,
  slotQ, boolQ, truthQ, intQ, tupQ_tuple, listQ, strQ, subQ_t0, subQ_t1, subQ_l0, subQ_str, kI, kB, kAbs, kInt, kMin, kMax, kDivmod, setAll_cons, setAll_nil, outQ_ok, outQ_err, callPost_rt, callPost_nx, callPost_xx, turnP, kEq_int, kNe_int, kEq_n, kEq_f, kEq_c, kEq_u, kEq_p4, kNe_p4,
  List.getD_cons_zero, List.getD_cons_succ, List.set_cons_zero, List.set_cons_succ, valSlots, List.map_cons, List.map_nil, List.nil_append, List.cons_append, List.append_nil, List.replicate_succ, List.replicate_zero, List.length_cons, List.length_nil,
  true_and, and_true, bne_iff_ne, ne_eq, Bool.not_eq_true', Bool.not_eq_false', decide_eq_true_eq, decide_eq_false_iff_not, beq_iff_eq, beq_eq_false_iff_ne, bne_eq_false_iff_eq, Decidable.not_not, true_implies, Bool.true_eq_false, Bool.false_eq_true, false_implies, implies_true, not_true_eq_false, not_false_eq_true, reduceCtorEq, ok_inj, err_inj, tupQ_mk, subQ_m0, subQ_m1, kEq_mk, sn_z, natAbs_z, natCast_z, kEq_mm, kNe_mm, bl_m1, bl_m2, bl_m3, Bool.and_false, Bool.false_and, Bool.not_false, Bool.not_true, Bool.and_true, Bool.true_and, Bool.and_eq_true, Bool.and_eq_false_iff])
def sgnI (n : Int) : Int := if 0 < n then 1 else if n < 0 then -1 else 0
theorem sgnI_def (n : Int) : (0 < n ∧ sgnI n = 1) ∨ (n < 0 ∧ sgnI n = -1) ∨ (n = 0 ∧ sgnI n = 0) := by unfold sgnI; split <;> (try split) <;> omega
theorem sign_ok (hK : KK cx) {m e : Int} (h : Odd0 m e) : CallOK cx 222 0 [mk m e] (.ok (.int (sgnI m))) := by
  refine w_mpf_sign hK rfl (s_mpf_sign fun R0 h0 => ?_)
  walk_at "vc"
  rw [h0]; refine s_mpf_sign_1 fun R1 h1 => ?_
  walk_at "vc"
  have := sgnI_def m
  have := sn_def m
  refine ⟨fun q => congrArg PyData.int (by omega), fun q => ?_⟩
  rw [h1]; unfold q_mpf_sign_2; walk_at "vc"
  have b1 : bl (-1) = 1 := by decide
  rw [b1]
  refine ⟨⟨by omega, by omega⟩, congrArg PyData.int ?_⟩
  rcases this with ⟨h2, h3⟩ | ⟨h2, h3⟩
  · rw [h3]; show sgnI m = (-1) ^ 1; omega
  · rw [h3]; show sgnI m = (-1) ^ 0; omega

theorem sumN_zero {m e m' e' : Int} (h : Odd0 m e) (h' : Odd0 m' e') : sumN m e (-m') e' = 0 ↔ m = m' ∧ e = e' := by
  constructor
  · intro hs
    rcases Int.lt_trichotomy e e' with hl | hl | hl
    · obtain ⟨n1, n2⟩ := sumN_le (m := m) (m' := -m') (Int.le_of_lt hl)
      rw [n1] at hs
      obtain ⟨k, hk⟩ : ∃ k, (e' - e).toNat = k + 1 := ⟨(e' - e).toNat - 1, by omega⟩
      rw [hk, Int.pow_succ] at hs
      have e1 : -m' * (2 ^ k * 2) = 2 * (-m' * 2 ^ k) := by grind
      have hp : (0 : Int) < 2 ^ k := Int.pow_pos (by decide)
      rcases h with h | ⟨h, he⟩
      · omega
      · have e2 : -m' * 2 ^ k = 0 := by omega
        rcases Int.mul_eq_zero.mp e2 with z | z
        · rcases h' with h' | ⟨h', he'⟩ <;> omega
        · omega
    · subst hl
      obtain ⟨n1, n2⟩ := sumN_le (m := m) (m' := -m') (Int.le_refl e)
      rw [n1, show (e - e).toNat = 0 by omega, Int.pow_zero, Int.mul_one] at hs
      exact ⟨by omega, rfl⟩
    · obtain ⟨n1, n2⟩ := sumN_ge (m := m) (m' := -m') (Int.le_of_lt hl)
      rw [n1] at hs
      obtain ⟨k, hk⟩ : ∃ k, (e - e').toNat = k + 1 := ⟨(e - e').toNat - 1, by omega⟩
      rw [hk, Int.pow_succ] at hs
      have e1 : m * (2 ^ k * 2) = 2 * (m * 2 ^ k) := by grind
      have hp : (0 : Int) < 2 ^ k := Int.pow_pos (by decide)
      rcases h' with h' | ⟨h', he'⟩
      · omega
      · have e2 : m * 2 ^ k = 0 := by omega
        rcases Int.mul_eq_zero.mp e2 with z | z
        · rcases h with h | ⟨h, he⟩ <;> omega
        · omega
  · rintro ⟨rfl, rfl⟩
    obtain ⟨n1, n2⟩ := sumN_le (m := m) (m' := -m) (Int.le_refl e)
    rw [n1]; simp; omega
theorem eq_ok (hK : KK cx) {m e m' e' : Int} (h : Odd0 m e) (h' : Odd0 m' e') : CallOK cx 149 0 [mk m e, mk m' e'] (.ok (.bool (decide (sumN m e (-m') e' = 0)))) := by
  have hd : decide (sumN m e (-m') e' = 0) = (decide (m = m') && decide (e = e')) := by
    rw [Bool.eq_iff_iff]; simp [sumN_zero h h']
  rw [hd]
  refine w_mpf_eq hK rfl (s_mpf_eq fun R0 h0 => ?_)
  have fin : q_mpf_eq_1 cx [.val (mk m e), .val (mk m' e')] [] (callPost (.ok (.bool (decide (m = m') && decide (e = e'))))) := by
    unfold q_mpf_eq_1
    walk_at "vc"
  walk_at "vc"
  rw [h0]
  exact ⟨fun _ => fin, fun _ => ⟨fun _ => fin, fun _ => fin⟩⟩

/-- the order of magnitudes -/
theorem mag_lt {m e m' e' : Int} (h' : m' ≠ 0) (h : bl m + e < bl m' + e') : (e ≤ e' → (m.natAbs : Int) < (m'.natAbs : Nat) * 2 ^ (e' - e).toNat) ∧ (e' ≤ e → (m.natAbs : Int) * 2 ^ (e - e').toNat < (m'.natAbs : Nat)) := by
  have b1 : m.natAbs < 2 ^ bl m := bl_le.mp (Nat.le_refl _)
  obtain ⟨c1, c2⟩ := bl_bounds h'
  have p2 := bl_pos h'
  constructor
  · intro hl
    have h1 := Nat.mul_le_mul_right (2 ^ (e' - e).toNat) c1
    rw [← Nat.pow_add] at h1
    have h2 : 2 ^ bl m ≤ 2 ^ (bl m' - 1 + (e' - e).toNat) := Nat.pow_le_pow_right (by decide) (by omega)
    have h3 : ((m'.natAbs * 2 ^ (e' - e).toNat : Nat) : Int) = (m'.natAbs : Nat) * 2 ^ (e' - e).toNat := by push_cast; rfl
    omega
  · intro hl
    have h1 := Nat.mul_lt_mul_of_pos_right b1 (two_pos (e - e').toNat)
    rw [← Nat.pow_add] at h1
    have h2 : 2 ^ (bl m + (e - e').toNat) ≤ 2 ^ (bl m' - 1) := Nat.pow_le_pow_right (by decide) (by omega)
    have h3 : ((m.natAbs * 2 ^ (e - e').toNat : Nat) : Int) = (m.natAbs : Nat) * 2 ^ (e - e').toNat := by push_cast; rfl
    omega
theorem mul_sign {m : Int} (k : Nat) : (0 < m ↔ 0 < m * 2 ^ k) ∧ (m < 0 ↔ m * 2 ^ k < 0) := by
  have hp : (0 : Int) < 2 ^ k := Int.pow_pos (by decide)
  have h1 : 0 < m → 0 < m * 2 ^ k := fun h => Int.mul_pos h hp
  have h2 : m < 0 → m * 2 ^ k < 0 := fun h => Int.mul_neg_of_neg_of_pos h hp
  have h3 : m = 0 → m * 2 ^ k = 0 := fun h => by rw [h, Int.zero_mul]
  omega
/-- the sign of a difference -/
theorem diff_sign {m e m' e' : Int} : (0 ≤ m ∧ m' < 0 → 0 < sumN m e (-m') e') ∧ (m < 0 ∧ 0 ≤ m' → sumN m e (-m') e' < 0) ∧ (m = 0 → sgnI (sumN m e (-m') e') = -sgnI m') ∧ (m' = 0 → sgnI (sumN m e (-m') e') = sgnI m) := by
  unfold sumN
  have h1 := mul_sign (m := m) (e - min e e').toNat
  have h2 := mul_sign (m := m') (e' - min e e').toNat
  rw [Int.neg_mul]
  generalize m * 2 ^ (e - min e e').toNat = x at *
  generalize m' * 2 ^ (e' - min e e').toNat = y at *
  have := sgnI_def (x + -y)
  have := sgnI_def m
  have := sgnI_def m'
  omega
theorem diff_mag {m e m' e' : Int} (h0 : m ≠ 0) (h0' : m' ≠ 0) : (bl m + e < bl m' + e' → (0 < m → 0 < m' → sumN m e (-m') e' < 0) ∧ (m < 0 → m' < 0 → 0 < sumN m e (-m') e')) ∧ (bl m' + e' < bl m + e → (0 < m → 0 < m' → 0 < sumN m e (-m') e') ∧ (m < 0 → m' < 0 → sumN m e (-m') e' < 0)) := by
  have f1 := abs_mul m' (e' - e).toNat
  have f2 := abs_mul m (e - e').toNat
  rcases (by omega : e ≤ e' ∨ e' ≤ e) with hl | hl
  · obtain ⟨n1, n2⟩ := sumN_le (m := m) (m' := -m') hl
    rw [n1, Int.neg_mul]
    constructor
    · intro h
      have := (mag_lt h0' h).1 hl
      omega
    · intro h
      have := (mag_lt h0 h).2 hl
      omega
  · obtain ⟨n1, n2⟩ := sumN_ge (m := m) (m' := -m') hl
    rw [n1]
    constructor
    · intro h
      have := (mag_lt h0' h).2 hl
      omega
    · intro h
      have := (mag_lt h0 h).1 hl
      omega
theorem R_sign {w bits n d p} (hb : 1 ≤ bits) (hd : 0 < d) : (0 < n ↔ 0 < (R w bits n d p).1) ∧ (n < 0 ↔ (R w bits n d p).1 < 0) := by
  rcases R_spec (w := w) (n := n) (p := p) hb hd with ⟨h1, h2, h3⟩ | ⟨h1, h2, h3⟩
  · omega
  · have := h3.pos; omega

theorem sgnI_pos {n : Int} (h : 0 < n) : sgnI n = 1 := by have := sgnI_def n; omega
theorem sgnI_neg {n : Int} (h : n < 0) : sgnI n = -1 := by have := sgnI_def n; omega
theorem sgnI_zero : sgnI 0 = 0 := by decide
theorem sn_diff {m m' : Int} (h : ¬ sn m = sn m') : (0 ≤ m → m' < 0) ∧ (¬ 0 ≤ m → 0 ≤ m') := by have := sn_def m; have := sn_def m'; omega
theorem sn_same {m m' : Int} (h : sn m = sn m') : 0 ≤ m ↔ 0 ≤ m' := by have := sn_def m; have := sn_def m'; omega
theorem cmp_ok (hK : KK cx) {m e m' e' : Int} (h : Odd0 m e) (h' : Odd0 m' e') (hz : bl m ≤ 2 ^ 20) (hz' : bl m' ≤ 2 ^ 20) (he : -(2 ^ 20) ≤ e ∧ e ≤ 2 ^ 20) (he' : -(2 ^ 20) ≤ e' ∧ e' ≤ 2 ^ 20) :
    CallOK cx 156 6 [mk m e, mk m' e'] (.ok (.int (sgnI (sumN m e (-m') e')))) := by
  obtain ⟨d1, d2, d3, d4⟩ := diff_sign (m := m) (e := e) (m' := m') (e' := e')
  have dz := sumN_zero h h'
  have dm := fun h0 h0' => diff_mag (m := m) (e := e) (m' := m') (e' := e') h0 h0'
  have sg := sgnI_def (sumN m e (-m') e')
  have q1 := sn_def m
  have q2 := sn_def m'
  refine w_mpf_cmp hK rfl (s_mpf_cmp fun R0 h0 => ?_)
  walk_at "vc"
  rw [h0]; refine s_mpf_cmp_1 fun R1 h1 => ?_
  walk_at "vc"
  rw [h1]; refine s_mpf_cmp_2 fun R2 h2 => ?_
  walk_at "vc"
  have o1 : m = 0 → e = 0 := fun q => by rcases h with h | h <;> omega
  have o2 : m' = 0 → e' = 0 := fun q => by rcases h' with h | h <;> omega
  have bz : bl 0 = 0 := bl_zero
  have nm : m.natAbs = 0 → m = 0 := by omega
  have nm' : m'.natAbs = 0 → m' = 0 := by omega
  have nn : ¬ m.natAbs = 0 → m ≠ 0 := by omega
  have nn' : ¬ m'.natAbs = 0 → m' ≠ 0 := by omega
  have zz : ∀ {m e : Int}, (m = 0 → e = 0) → m.natAbs = 0 → (¬0 ≤ m ∨ ¬m.natAbs = 0 ∨ ¬e = 0 ∨ ¬bl m = 0) → False := by
    intro m e o1 q1 q2
    have hm : m = 0 := by omega
    have := o1 hm
    subst hm; subst this
    rw [bl_zero] at q2; omega
  have body : m ≠ 0 → m' ≠ 0 → R2 [.val (mk m e), .val (mk m' e'), .val (.int (sn m)), .val (.int m.natAbs), .val (.int e), .val (.int (bl m)), .val (.int (sn m')), .val (.int m'.natAbs), .val (.int e'), .val (.int (bl m')), .undef, .undef, .undef] [] (callPost (.ok (.int (sgnI (sumN m e (-m') e'))))) := by
    intro n1 n2
    obtain ⟨dm1, dm2⟩ := dm n1 n2
    rw [h2]; refine s_mpf_cmp_3 fun R3 h3 => ?_
    walk_at "vc"
    refine ⟨fun q => ⟨fun q' => congrArg PyData.int (sgnI_pos (d1 ⟨q', (sn_diff q).1 q'⟩)), fun q' => congrArg PyData.int (sgnI_neg (d2 ⟨Int.not_le.mp q', (sn_diff q).2 q'⟩))⟩, fun q => ?_⟩
    have sm := sn_same q
    have pp : 0 ≤ m → 0 < m ∧ 0 < m' := by clear d1 d2 d3 d4 dz dm dm1 dm2 sg; omega
    have nnn : ¬ 0 ≤ m → m < 0 ∧ m' < 0 := by clear d1 d2 d3 d4 dz dm dm1 dm2 sg; omega
    clear q1 q2 o1 o2 zz
    rw [h3]; refine s_mpf_cmp_4 fun R4 h4 => ?_
    walk_at "vc"
    refine ⟨fun qe => ?_, fun qe => ?_⟩
    · subst qe
      obtain ⟨k1, k2⟩ := sumN_le (m := m) (m' := -m') (Int.le_refl e)
      rw [show (e - e).toNat = 0 by omega, Int.pow_zero, Int.mul_one] at k1
      rw [k1]
      clear dm dm1 dm2 d1 d2 d3 d4 dz sg
      refine ⟨fun z => congrArg PyData.int (by rw [show m + -m' = 0 by omega]; rfl), fun z => ⟨fun z2 => ⟨fun z3 => congrArg PyData.int (sgnI_neg (by omega)), fun z3 => congrArg PyData.int (sgnI_pos (by omega))⟩, fun z2 => ⟨fun z3 => congrArg PyData.int (sgnI_pos (by omega)), fun z3 => congrArg PyData.int (sgnI_neg (by omega))⟩⟩⟩
    · rw [h4]; refine s_mpf_cmp_5 fun R5 h5 => ?_
      walk_at "vc"
      rw [h5]; refine s_mpf_cmp_6 fun R6 h6 => ?_
      walk_at "vc"
      rw [h6]; refine s_mpf_cmp_7 fun R7 h7 => ?_
      walk_at "vc"
      have last : (bl m : Int) + e = bl m' + e' → R7 [.val (mk m e), .val (mk m' e'), .val (.int (sn m)), .val (.int m.natAbs), .val (.int e), .val (.int (bl m)), .val (.int (sn m')), .val (.int m'.natAbs), .val (.int e'), .val (.int (bl m')), .val (.int (bl m + e)), .val (.int (bl m' + e')), .undef] [] (callPost (.ok (.int (sgnI (sumN m e (-m') e'))))) := by
        intro hq
        rw [h7]; refine s_mpf_cmp_8 fun R8 h8 => ?_
        walk_at "vc"
        have hsub := subt_ok hK (w := .f) (prec := 5) h h' hz hz' he he' (.inr (.inr hq))
        refine callI hsub (by decide) ?_
        rw [h8]; refine s_mpf_cmp_9 fun R9 h9 => ?_
        unfold mkr
        walk_at "vc"
        have hs := R_sign (w := .f) (bits := 5) (n := sumN m e (-m') e') (d := 1) (p := min e e') (by decide) (by decide)
        unfold rz; rw [if_neg (by decide)]
        have hne : sumN m e (-m') e' ≠ 0 := fun z => qe (dz.mp z).2
        clear dm dm1 dm2 d1 d2 d3 d4 dz sg
        refine ⟨fun q => congrArg PyData.int (sgnI_neg (hs.2.mpr (by omega))), fun q => ?_⟩
        rw [h9]; unfold q_mpf_cmp_10; walk_at "vc"
        exact congrArg PyData.int (sgnI_pos (by omega))
      have lastE : ∀ {a b : Int}, ¬ a < b → ¬ b < a → a = b := by intro a b; omega
      exact ⟨fun q => ⟨fun q1 => congrArg PyData.int (sgnI_pos ((dm1 q1).2 (nnn q).1 (nnn q).2)), fun q1 => ⟨fun q2 => congrArg PyData.int (sgnI_neg ((dm2 q2).2 (nnn q).1 (nnn q).2)), fun q2 => last (lastE q1 q2)⟩⟩,
        fun q => ⟨fun q1 => congrArg PyData.int (sgnI_neg ((dm1 q1).1 (pp q).1 (pp q).2)), fun q1 => ⟨fun q2 => congrArg PyData.int (sgnI_pos ((dm2 q2).1 (pp q).1 (pp q).2)), fun q2 => last (lastE q1 q2)⟩⟩⟩
  have z1 : m = 0 → ∃ out r, CallOK cx 222 r [mk m' e'] out ∧ r < 6 ∧ outQ out (fun d => match d with | .int i => PyData.int (sgnI (sumN m e (-m') e')) = .int (-i) | x => False) fun x => False :=
    fun q => callI (sign_ok hK h') (by decide) (congrArg PyData.int (d3 q))
  have z2 : m' = 0 → ∃ out r, CallOK cx 222 r [mk m e] out ∧ r < 6 ∧ outQ out (callPost (.ok (.int (sgnI (sumN m e (-m') e'))))).rt fun x => False :=
    fun q => callI (sign_ok hK h) (by decide) (by rw [callPost_rt, d4 q])
  exact ⟨fun q => ⟨fun _ => z1 (nm q), fun q' => (zz o1 q q').elim⟩, fun q => ⟨fun q' => ⟨fun q2 => absurd q2.2.1 q, fun _ => ⟨fun _ => z2 (nm' q'), fun q2 => (zz o2 q' q2).elim⟩⟩, fun q' => body (nn q) (nn' q')⟩⟩

theorem lt_ok (hK : KK cx) {m e m' e' : Int} (h : Odd0 m e) (h' : Odd0 m' e') (hz : bl m ≤ 2 ^ 20) (hz' : bl m' ≤ 2 ^ 20) (he : -(2 ^ 20) ≤ e ∧ e ≤ 2 ^ 20) (he' : -(2 ^ 20) ≤ e' ∧ e' ≤ 2 ^ 20) :
    CallOK cx 163 7 [mk m e, mk m' e'] (.ok (.bool (decide (sumN m e (-m') e' < 0)))) := by
  refine w_mpf_lt hK rfl (s_mpf_lt fun R0 h0 => ?_)
  walk_at "vc"
  rw [h0]; unfold q_mpf_lt_1; walk_at "vc"
  refine callI (cmp_ok hK h h' hz hz' he he') (by decide) ?_
  walk_at "vc"
  have := sgnI_def (sumN m e (-m') e')
  congr 1; rw [decide_eq_decide]; omega
theorem le_ok (hK : KK cx) {m e m' e' : Int} (h : Odd0 m e) (h' : Odd0 m' e') (hz : bl m ≤ 2 ^ 20) (hz' : bl m' ≤ 2 ^ 20) (he : -(2 ^ 20) ≤ e ∧ e ≤ 2 ^ 20) (he' : -(2 ^ 20) ≤ e' ∧ e' ≤ 2 ^ 20) :
    CallOK cx 170 7 [mk m e, mk m' e'] (.ok (.bool (decide (sumN m e (-m') e' ≤ 0)))) := by
  refine w_mpf_le hK rfl (s_mpf_le fun R0 h0 => ?_)
  walk_at "vc"
  rw [h0]; unfold q_mpf_le_1; walk_at "vc"
  refine callI (cmp_ok hK h h' hz hz' he he') (by decide) ?_
  walk_at "vc"
  have := sgnI_def (sumN m e (-m') e')
  congr 1; rw [decide_eq_decide]; omega
theorem gt_ok (hK : KK cx) {m e m' e' : Int} (h : Odd0 m e) (h' : Odd0 m' e') (hz : bl m ≤ 2 ^ 20) (hz' : bl m' ≤ 2 ^ 20) (he : -(2 ^ 20) ≤ e ∧ e ≤ 2 ^ 20) (he' : -(2 ^ 20) ≤ e' ∧ e' ≤ 2 ^ 20) :
    CallOK cx 177 7 [mk m e, mk m' e'] (.ok (.bool (decide (0 < sumN m e (-m') e')))) := by
  refine w_mpf_gt hK rfl (s_mpf_gt fun R0 h0 => ?_)
  walk_at "vc"
  rw [h0]; unfold q_mpf_gt_1; walk_at "vc"
  refine callI (cmp_ok hK h h' hz hz' he he') (by decide) ?_
  walk_at "vc"
  have := sgnI_def (sumN m e (-m') e')
  congr 1; rw [decide_eq_decide]; omega
theorem ge_ok (hK : KK cx) {m e m' e' : Int} (h : Odd0 m e) (h' : Odd0 m' e') (hz : bl m ≤ 2 ^ 20) (hz' : bl m' ≤ 2 ^ 20) (he : -(2 ^ 20) ≤ e ∧ e ≤ 2 ^ 20) (he' : -(2 ^ 20) ≤ e' ∧ e' ≤ 2 ^ 20) :
    CallOK cx 184 7 [mk m e, mk m' e'] (.ok (.bool (decide (0 ≤ sumN m e (-m') e')))) := by
  refine w_mpf_ge hK rfl (s_mpf_ge fun R0 h0 => ?_)
  walk_at "vc"
  rw [h0]; unfold q_mpf_ge_1; walk_at "vc"
  refine callI (cmp_ok hK h h' hz hz' he he') (by decide) ?_
  walk_at "vc"
  have := sgnI_def (sumN m e (-m') e')
  congr 1; rw [decide_eq_decide]; omega
end Mine

namespace Mine
open PySem PySem.W PySem.Calls PyProof.Rows PySem.Spec
variable {cx : Cx}
local macro_rules | `(tactic| walk_at "vc") => `(tactic| simp only [tSeq, tSet, tIf, tRet, tSkip, tAug, tAssert, tBin, tTest, tName, tInt, tGlob, tStr, tBool, tNone, tTruth, tNotT, tTrue, tFalse, tAndT, tOrT, tIfE, tNeg, tNot, tOr, tAnd, tNil, tCons, tTup, tList, tSub, tDict, tBl, tB, tCall, tTypeIs, tIsInt, tUnpack, tUnpackR, tBrk, tCont, tRaise,
  slotQ, boolQ, truthQ, intQ, tupQ_tuple, listQ, strQ, subQ_t0, subQ_t1, subQ_l0, subQ_str, kI, kB, kAbs, kInt, kMin, kMax, kDivmod, setAll_cons, setAll_nil, outQ_ok, outQ_err, callPost_rt, callPost_nx, callPost_xx, turnP, kEq_int, kNe_int, kEq_n, kEq_f, kEq_c, kEq_u, kEq_p4, kNe_p4,
  List.getD_cons_zero, List.getD_cons_succ, List.set_cons_zero, List.set_cons_succ, valSlots, List.map_cons, List.map_nil, List.nil_append, List.cons_append, List.append_nil, List.replicate_succ, List.replicate_zero, List.length_cons, List.length_nil,
  true_and, and_true, bne_iff_ne, ne_eq, Bool.not_eq_true', Bool.not_eq_false', decide_eq_true_eq, decide_eq_false_iff_not, beq_iff_eq, beq_eq_false_iff_ne, bne_eq_false_iff_eq, Decidable.not_not, true_implies, Bool.true_eq_false, Bool.false_eq_true, false_implies, implies_true, not_true_eq_false, not_false_eq_true, reduceCtorEq, ok_inj, err_inj, tupQ_mk, subQ_m0, subQ_m1, kEq_mk, sn_z, natAbs_z, natCast_z, kEq_mm, kNe_mm, bl_m1, bl_m2, bl_m3, Bool.and_false, Bool.false_and, Bool.not_false, Bool.not_true, Bool.and_true, Bool.true_and, Bool.and_eq_true, Bool.and_eq_false_iff])
theorem to_rational_ok (hK : KK cx) {m e : Int} (hz : bl m ≤ 2 ^ 20) (he : -(2 ^ 16) ≤ e ∧ e ≤ 2 ^ 16) :
    CallOK cx 142 0 [mk m e] (.ok (if 0 ≤ e then p2 (m * 2 ^ e.toNat) 1 else p2 m (2 ^ (-e).toNat))) := by
  refine w_to_rational hK rfl (s_to_rational fun R0 h0 => ?_)
  walk_at "vc"
  rw [h0]; refine s_to_rational_1 fun R1 h1 => ?_
  have hin : ∀ {Q : PyData → Prop}, Q (.bool false) → kInTup (mk m e) (.tuple [p_finf, p_fninf]) Q := by
    intro Q q
    refine ⟨rfl, rfl, by decide, ?_⟩
    have e1 : PyData.eqv p_finf (mk m e) = false := by
      unfold mk
      simp only [PyData.eqv, PyData.eqvAll, Bool.and_true]
      have : ((-2 : Int) == (bl m : Nat)) = false := beq_eq_false_iff_ne.mpr (by omega)
      rw [this]; simp
    have e2 : PyData.eqv p_fninf (mk m e) = false := by
      unfold mk
      simp only [PyData.eqv, PyData.eqvAll, Bool.and_true]
      have : ((-3 : Int) == (bl m : Nat)) = false := beq_eq_false_iff_ne.mpr (by omega)
      rw [this]; simp
    simp only [List.any_cons, List.any_nil, e1, e2, Bool.or_false]
    exact q
  walk_at "vc"
  refine ⟨by simp, hin ?_⟩
  walk_at "vc"
  rw [h1]; refine s_to_rational_2 fun R2 h2 => ?_
  walk_at "vc"
  rw [h2]; refine s_to_rational_3 fun R3 h3 => ?_
  walk_at "vc"
  have hsn := sn_def m
  have fin : ∀ {M : Int}, M = m → R3 [.val (mk m e), .val (.int (sn m)), .val (.int M), .val (.int e), .val (.int (bl m))] [] (callPost (.ok (if 0 ≤ e then p2 (m * 2 ^ e.toNat) 1 else p2 m (2 ^ (-e).toNat)))) := by
    intro M hM
    subst hM
    rw [h3]; unfold q_to_rational_4
    walk_at "vc"
    rw [bl_one]
    have b1 := bl_shl 1 e.toNat
    rw [bl_one] at b1
    refine ⟨fun q => ⟨⟨q, by omega⟩, ⟨by omega, by omega⟩, by simp, ?_⟩, fun q => ⟨⟨by omega, by omega⟩, by simp, ?_⟩⟩
    · rw [if_pos q, Int.one_mul]
    · rw [if_neg q, Int.one_mul]
  exact ⟨fun q => fin (by omega), fun q => fin (by omega)⟩

theorem frexp_ok (hK : KK cx) {m e : Int} (h : m % 2 = 1) :
    CallOK cx 276 1 [mk m e] (.ok (.tuple [mk m (-(bl m : Int)), .int (bl m + e)])) := by
  refine w_mpf_frexp hK rfl (s_mpf_frexp fun R0 h0 => ?_)
  walk_at "vc"
  rw [h0]; refine s_mpf_frexp_1 fun R1 h1 => ?_
  walk_at "vc"
  refine ⟨fun q => absurd h (by have : m = 0 := by omega
                                subst this; decide), fun q => ?_⟩
  rw [h1]; unfold q_mpf_frexp_2; walk_at "vc"
  have hs := shift_ok hK (m := m) (e := e) (n := -(bl m : Int) - e) (.inl h)
  rw [if_neg (by omega), show e + (-(bl m : Int) - e) = -(bl m : Int) by omega] at hs
  refine callI hs (by decide) ?_
  exact ⟨by simp, rfl⟩

/-- least and greatest -/
def minS (a y : Int × Int) : Int × Int := if sumN y.1 y.2 (-a.1) a.2 < 0 then y else a
def maxS (b y : Int × Int) : Int × Int := if 0 < sumN y.1 y.2 (-b.1) b.2 then y else b
theorem fold_take {f : Int × Int → Int × Int → Int × Int} {l : List (Int × Int)} {k : Nat} {y a : Int × Int} (h : l[k]? = some y) : (l.take (k + 1)).foldl f a = f ((l.take k).foldl f a) y := by
  rw [List.take_add_one, h, List.foldl_append]; rfl
theorem fold_mem {f : Int × Int → Int × Int → Int × Int} (hf : ∀ a y, f a y = y ∨ f a y = a) : ∀ (l : List (Int × Int)) (a : Int × Int), l.foldl f a ∈ a :: l
  | [], a => by simp
  | y :: r, a => by
    have h := fold_mem hf r (f a y)
    rw [List.foldl_cons]
    rcases hf a y with h1 | h1 <;> rw [h1] at h ⊢ <;> simp only [List.mem_cons] at h ⊢ <;> rcases h with h | h <;> simp [h]
theorem minS_or (a y : Int × Int) : minS a y = y ∨ minS a y = a := by unfold minS; split <;> simp
theorem maxS_or (a y : Int × Int) : maxS a y = y ∨ maxS a y = a := by unfold maxS; split <;> simp
theorem min_max_ok (hK : KK cx) {x : Int × Int} {l : List (Int × Int)} (hl : l.length ≤ 4) (h : ∀ y ∈ x :: l, Odd0 y.1 y.2 ∧ bl y.1 ≤ 2 ^ 20 ∧ -(2 ^ 20) ≤ y.2 ∧ y.2 ≤ 2 ^ 20) :
    CallOK cx 191 8 [.list ((x :: l).map mkr)] (.ok (.tuple [mkr (l.foldl minS x), mkr (l.foldl maxS x)])) := by
  refine w_mpf_min_max hK rfl (s_mpf_min_max fun R0 h0 => ?_)
  unfold tSeq tSet2
  walk_at "vc"
  rw [h0]; refine s_mpf_min_max_1 fun R1 h1 => ?_
  unfold tSeq
  refine tFor_intro (ds := l.map mkr) (fun Q X h => ?_) (fun k ρ σ => σ = [] ∧ ∃ z, ρ = [.val (.list (mkr x :: l.map mkr)), .val (mkr ((l.take k).foldl minS x)), .val (mkr ((l.take k).foldl maxS x)), z]) ?_ ?_ ?_
  · show 0 ≤ (1 : Int) ∧ (1 : Int).toNat ≤ (mkr x :: l.map mkr).length ∧ (mkr x :: l.map mkr).length ≤ 1000 ∧ Q _
    refine ⟨by decide, by simp, by simp; omega, h⟩
  · exact ⟨rfl, _, rfl⟩
  · rintro k d hd ρ σ ⟨rfl, z, rfl⟩
    rw [List.getElem?_map] at hd
    obtain ⟨y, hy, rfl⟩ := Option.map_eq_some_iff.mp hd
    rw [fold_take hy, fold_take hy]
    have ma : (l.take k).foldl minS x ∈ x :: l := by
      have := fold_mem minS_or (l.take k) x
      rcases List.mem_cons.mp this with q | q
      · rw [q]; exact .head _
      · exact .tail _ (List.mem_of_mem_take q)
    have mb : (l.take k).foldl maxS x ∈ x :: l := by
      have := fold_mem maxS_or (l.take k) x
      rcases List.mem_cons.mp this with q | q
      · rw [q]; exact .head _
      · exact .tail _ (List.mem_of_mem_take q)
    have my : y ∈ x :: l := .tail _ (List.mem_of_getElem? hy)
    generalize (l.take k).foldl minS x = a at *
    generalize (l.take k).foldl maxS x = b at *
    generalize PyData.list (mkr x :: l.map mkr) = LL
    obtain ⟨a1, a2, a3, a4⟩ := h a ma
    obtain ⟨b1, b2, b3, b4⟩ := h b mb
    obtain ⟨y1, y2, y3, y4⟩ := h y my
    walk_at "vc"
    refine callI (lt_ok hK y1 a1 y2 a2 ⟨y3, y4⟩ ⟨a3, a4⟩) (by decide) ?_
    have fin : ∀ {a' b' : Int × Int} {z : Slot}, a' = minS a y → b' = maxS b y → ∃ z', [Slot.val LL, .val (mkr a'), .val (mkr b'), z] = [.val LL, .val (mkr (minS a y)), .val (mkr (maxS b y)), z'] := by
      intro a' b' z h1 h2; subst h1 h2; exact ⟨_, rfl⟩
    have gt := gt_ok hK y1 b1 y2 b2 ⟨y3, y4⟩ ⟨b3, b4⟩
    refine ⟨fun q => ?_, fun q => ?_⟩
    · refine callI gt (by decide) ?_
      have e1 : y = minS a y := by unfold minS; rw [if_pos (of_decide_eq_true q)]
      exact ⟨fun q2 => fin e1 (by unfold maxS; rw [if_pos (of_decide_eq_true q2)]), fun q2 => fin e1 (by unfold maxS; rw [if_neg (of_decide_eq_false q2)])⟩
    · refine callI gt (by decide) ?_
      have e1 : a = minS a y := by unfold minS; rw [if_neg (of_decide_eq_false q)]
      exact ⟨fun q2 => fin e1 (by unfold maxS; rw [if_pos (of_decide_eq_true q2)]), fun q2 => fin e1 (by unfold maxS; rw [if_neg (of_decide_eq_false q2)])⟩
  · rintro ρ σ ⟨rfl, z, rfl⟩
    dsimp only
    rw [h1]; unfold q_mpf_min_max_2
    walk_at "vc"
    rw [List.length_map, List.take_length]
    exact ⟨by simp, rfl⟩
end Mine

namespace Mine
open PySem PySem.W PySem.Calls PyProof.Rows PySem.Spec
variable {cx : Cx}
local macro_rules | `(tactic| walk_at "vc") => `(tactic| simp only [tSeq, tSet, tIf, tRet, tSkip, tAug, tAssert, tBin, tTest, tName, tInt, tGlob, tStr, tBool, tNone, tTruth, tNotT, tTrue, tFalse, tAndT, tOrT, tIfE, tNeg, tNot, tOr, tAnd, tNil, tCons, tTup, tList, tSub, tDict, tBl, tB, tCall, tTypeIs, tIsInt, tUnpack, tUnpackR, tBrk, tCont, tRaise,
  slotQ, boolQ, truthQ, intQ, tupQ_tuple, listQ, strQ, subQ_t0, subQ_t1, subQ_l0, subQ_str, kI, kB, kAbs, kInt, kMin, kMax, kDivmod, setAll_cons, setAll_nil, outQ_ok, outQ_err, callPost_rt, callPost_nx, callPost_xx, turnP, kEq_int, kNe_int, kEq_n, kEq_f, kEq_c, kEq_u, kEq_p4, kNe_p4,
  List.getD_cons_zero, List.getD_cons_succ, List.set_cons_zero, List.set_cons_succ, valSlots, List.map_cons, List.map_nil, List.nil_append, List.cons_append, List.append_nil, List.replicate_succ, List.replicate_zero, List.length_cons, List.length_nil,
  true_and, and_true, bne_iff_ne, ne_eq, Bool.not_eq_true', Bool.not_eq_false', decide_eq_true_eq, decide_eq_false_iff_not, beq_iff_eq, beq_eq_false_iff_ne, bne_eq_false_iff_eq, Decidable.not_not, true_implies, Bool.true_eq_false, Bool.false_eq_true, false_implies, implies_true, not_true_eq_false, not_false_eq_true, reduceCtorEq, ok_inj, err_inj, tupQ_mk, subQ_m0, subQ_m1, kEq_mk, sn_z, natAbs_z, natCast_z, kEq_mm, kNe_mm, bl_m1, bl_m2, bl_m3, Bool.and_false, Bool.false_and, Bool.not_false, Bool.not_true, Bool.and_true, Bool.true_and, Bool.and_eq_true, Bool.and_eq_false_iff])
/-- the whole number at a fraction -/
def whole (w : Way) (m e : Int) : Int :=
  if 0 ≤ e then m * 2 ^ e.toNat else
    m.fdiv (2 ^ (-e).toNat) + (match w with
      | .c => if 2 * (m - m.fdiv (2 ^ (-e).toNat) * 2 ^ (-e).toNat) = 0 then 0 else 1
      | .n => if 2 ^ (-e).toNat < 2 * (m - m.fdiv (2 ^ (-e).toNat) * 2 ^ (-e).toNat) ∨ (2 * (m - m.fdiv (2 ^ (-e).toNat) * 2 ^ (-e).toNat) = 2 ^ (-e).toNat ∧ (m.fdiv (2 ^ (-e).toNat)).fmod 2 = 1) then 1 else 0
      | _ => 0)
theorem whole_nat {w : Way} {neg : Bool} {M N : Nat} (hw : w.isF = true ∨ w.isC = true ∨ w.isN = true) (hN : 1 ≤ N) :
    whole w (sv neg M) (-(N : Int)) = sv neg (M / 2 ^ N + (up w neg (M / 2 ^ N) (cls (M % 2 ^ N) (2 ^ N))).toNat) := by
  unfold whole
  rw [if_neg (by omega), show (-(-(N : Int))).toNat = N by omega]
  have h1 := Nat.div_add_mod M (2 ^ N)
  have h2 := Nat.mod_lt M (two_pos N)
  have hp := two_pos N
  have f1 := fdiv_nat M N
  have f2 := ceil_nat M N
  have h3 : ((2 : Int) ^ N) = ((2 ^ N : Nat) : Int) := by norm_cast
  have hev : 2 ^ N % 2 = 0 := by
    obtain ⟨k, rfl⟩ : ∃ k, N = k + 1 := ⟨N - 1, by omega⟩
    rw [Nat.pow_succ]; omega
  generalize M / 2 ^ N = q at *
  generalize M % 2 ^ N = r at *
  generalize 2 ^ N = X at *
  obtain ⟨c, hc⟩ : ∃ c, c = cls r X := ⟨_, rfl⟩
  have k0 : c = 0 ↔ r = 0 := by subst hc; unfold cls; split <;> (try split) <;> (try split) <;> omega
  have k2 : c = 2 ↔ 2 * r = X := by subst hc; unfold cls; split <;> (try split) <;> (try split) <;> omega
  have k3 : c = 3 ↔ X < 2 * r := by subst hc; unfold cls; split <;> (try split) <;> (try split) <;> omega
  rw [← hc]
  clear hc
  cases neg
  · rw [show sv false M = (M : Int) from rfl, f1]
    have e1 : (M : Int) - (q : Int) * X = r := by
      have : (M : Int) = X * q + r := by rw [← h1]; push_cast; rfl
      rw [this, Int.mul_comm (X : Int) q]; omega
    rw [h3, e1]
    cases w <;> simp only [Way.isF, Way.isC, Way.isN, Bool.false_eq_true, or_self, or_false, false_or] at hw
    · have hq : (q : Int).fmod 2 = ((q % 2 : Nat) : Int) := by rw [Int.fmod_eq_emod_of_nonneg _ (by decide)]; norm_cast
      simp only [hq, up, sv, Bool.false_eq_true, if_false]
      by_cases hd : c = 3 ∨ (c = 2 ∧ q % 2 = 1)
      · rw [if_pos (by omega), decide_eq_true hd]; rfl
      · rw [if_neg (by omega), decide_eq_false hd]; rfl
    · simp [up, sv]
    · simp only [up, sv, Bool.false_eq_true, if_false]
      by_cases hd : c = 0
      · rw [if_pos (by omega)]; simp [hd]
      · rw [if_neg (by omega)]; simp [hd]
  · rw [show sv true M = -(M : Int) from rfl]
    generalize hF : (-(M : Int)).fdiv (2 ^ N) = F at *
    have hF2 : F = -((q + (decide (r ≠ 0)).toNat : Nat) : Int) := by omega
    rw [h3]
    by_cases hr : r = 0
    · have hc0 : c = 0 := k0.mpr hr
      have hF3 : F = -(q : Int) := by rw [hF2, hr]; simp
      have e1 : -(M : Int) - F * X = 0 := by
        have : (M : Int) = X * q + r := by rw [← h1]; push_cast; rfl
        rw [this, hF3, hr]; grind
      rw [e1, hF3]
      cases w <;> simp only [Way.isF, Way.isC, Way.isN, Bool.false_eq_true, or_self, or_false, false_or] at hw
      · have c0 : ¬ ((X : Int) < 2 * 0 ∨ (2 * 0 = (X : Int) ∧ (-(q : Int)).fmod 2 = 1)) := by rintro (z | ⟨z, _⟩) <;> omega
        rw [if_neg c0]; simp [up, hc0, sv]
      · simp [up, hc0, sv]
      · simp [up, hc0, sv]
    · have hc0 : c ≠ 0 := fun z => hr (k0.mp z)
      have hF3 : F = -(q : Int) - 1 := by rw [hF2]; simp [hr]; omega
      have e1 : -(M : Int) - F * X = (X : Int) - r := by
        have : (M : Int) = X * q + r := by rw [← h1]; push_cast; rfl
        rw [this, hF3]; grind
      rw [e1, hF3]
      cases w <;> simp only [Way.isF, Way.isC, Way.isN, Bool.false_eq_true, or_self, or_false, false_or] at hw
      · have hq : (-(q : Int) - 1).fmod 2 = (((q + 1) % 2 : Nat) : Int) := by rw [Int.fmod_eq_emod_of_nonneg _ (by decide)]; omega
        simp only [hq, up, sv, if_true]
        by_cases hd : c = 3 ∨ (c = 2 ∧ q % 2 = 1)
        · rw [if_neg (by omega), decide_eq_true hd]; simp; omega
        · rw [if_pos (by omega), decide_eq_false hd]; simp
      · simp [up, hc0, sv] <;> (try omega)
      · rw [if_neg (by omega)]; simp [up, sv] <;> (try omega)

theorem sv_abs (neg : Bool) (M : Nat) : (sv neg M).natAbs = M := by cases neg <;> simp [sv]
theorem sv_lt {neg : Bool} {M : Nat} (h : 0 < M) : sv neg M < 0 ↔ neg = true := by cases neg <;> simp [sv] <;> omega
theorem sv_ne {neg : Bool} {M : Nat} (h : 0 < M) : sv neg M ≠ 0 := by cases neg <;> simp [sv] <;> omega
/-- rounding to as many bits as the whole part has -/
theorem whole_R {w : Way} {m e : Int} (hw : w.isF = true ∨ w.isC = true ∨ w.isN = true) (he : e < 0) (hm : m ≠ 0) {bits : Nat} (hb : (bits : Int) = bl m + e) (h1 : 1 ≤ bits) : R w bits m 1 e = St (whole w m e) 0 := by
  obtain ⟨N, hN⟩ : ∃ N : Nat, e = -(N : Int) := ⟨(-e).toNat, by omega⟩
  subst hN
  have hwn := whole_nat (w := w) (neg := decide (m < 0)) (M := m.natAbs) (N := N) hw (by omega)
  rw [sv_natAbs] at hwn
  obtain ⟨b1, b2⟩ := bl_bounds hm
  have hbl : bl m = bits + N := by omega
  have hq0 : 2 ^ (bits - 1) ≤ m.natAbs / 2 ^ N := (Nat.le_div_iff_mul_le (two_pos N)).mpr (by
    rw [← Nat.pow_add, show bits - 1 + N = bl m - 1 by omega]; exact b1)
  have hq1 : m.natAbs / 2 ^ N < 2 ^ bits := (Nat.div_lt_iff_lt_mul (two_pos N)).mpr (by rw [← Nat.pow_add, ← hbl]; exact b2)
  have hq2 : 2 ^ bits = 2 * 2 ^ (bits - 1) := by conv => lhs; rw [show bits = (bits - 1) + 1 by omega, Nat.pow_succ]
                                                 omega
  have hp := two_pos (bits - 1)
  have hrq : Rq m.natAbs 1 ((0 : Nat) - (0 : Nat) + N) (m.natAbs / 2 ^ N) (cls (m.natAbs % 2 ^ N) (2 ^ N)) := by
    have := Rq_split (a := m.natAbs) (d := 1) (u := 0) (v := 0) (Q := m.natAbs) (r := 0) (by simp) (by simp) N
    simpa using this
  have hne : whole w m (-(N : Int)) ≠ 0 := by
    rw [hwn]; exact sv_ne (by omega)
  obtain ⟨k, g1, g2, g3⟩ := St_val (p := 0) hne
  have hsg : (m < 0 ↔ whole w m (-(N : Int)) < 0) := by
    rw [hwn, sv_lt (by omega)]; simp
  have hms := mul_sign (m := (St (whole w m (-(N : Int))) 0).1) k
  rw [← g1] at hms
  show R w bits m 1 (-(N : Int)) = ((St (whole w m (-(N : Int))) 0).1, (St (whole w m (-(N : Int))) 0).2)
  generalize St (whole w m (-(N : Int))) 0 = S at *
  refine R_eq h1 (by decide) (.inr ⟨hm, by omega, _, _, _, k, hrq, by omega, hq1, by omega, ?_, by omega⟩)
  have e1 := congrArg Int.natAbs (hwn.symm.trans g1)
  rw [Int.natAbs_mul, Int.natAbs_pow] at e1
  rw [sv_abs] at e1
  exact e1

theorem St_one {n p : Int} (h : n = 1 ∨ n = -1) : St n p = (n, p) := St_self (.inl (by omega))
theorem round_int_ok (hK : KK cx) {w : Way} {m e : Int} (hw : w.isF = true ∨ w.isC = true ∨ w.isN = true) (h : Odd0 m e) (hz : bl m ≤ 2 ^ 26) :
    CallOK cx 103 4 [mk m e, .str w.s] (.ok (mkr (if 0 ≤ e then (m, e) else St (whole w m e) 0))) := by
  refine w_mpf_round_int hK rfl (s_mpf_round_int fun R0 h0 => ?_)
  walk_at "vc"
  have o1 : m = 0 → e = 0 := fun q => by rcases h with h | h <;> omega
  rw [h0]; refine s_mpf_round_int_1 fun R1 h1 => ?_
  walk_at "vc"
  have body : R1 [.val (mk m e), .val (.str w.s), .val (.int (sn m)), .val (.int m.natAbs), .val (.int e), .val (.int (bl m)), .undef] [] (callPost (.ok (mkr (if 0 ≤ e then (m, e) else St (whole w m e) 0)))) := by
    rw [h1]; refine s_mpf_round_int_2 fun R2 h2 => ?_
    walk_at "vc"
    refine ⟨fun q => by rw [if_pos q], fun q => ?_⟩
    have q' : e < 0 := by omega
    rw [if_neg q]
    have hm : m ≠ 0 := fun z => by have := o1 z; omega
    rw [h2]; refine s_mpf_round_int_3 fun R3 h3 => ?_
    walk_at "vc"
    rw [h3]; refine s_mpf_round_int_4 fun R4 h4 => ?_
    walk_at "vc"
    obtain ⟨N, hN⟩ : ∃ N : Nat, e = -(N : Int) := ⟨(-e).toNat, by omega⟩
    subst hN
    have hwn := whole_nat (w := w) (neg := decide (m < 0)) (M := m.natAbs) (N := N) hw (by omega)
    rw [sv_natAbs] at hwn
    have b1 : m.natAbs < 2 ^ bl m := bl_le.mp (Nat.le_refl _)
    have small : -(N : Int) + bl m < 1 → m.natAbs / 2 ^ N = 0 ∧ m.natAbs % 2 ^ N = m.natAbs := by
      intro z
      have : 2 ^ bl m ≤ 2 ^ N := Nat.pow_le_pow_right (by decide) (by omega)
      exact ⟨Nat.div_eq_of_lt (by omega), Nat.mod_eq_of_lt (by omega)⟩
    have z0 : p_fzero = mk 0 0 := mk_zero.symm
    have hpos : 0 < m.natAbs := by omega
    refine ⟨fun z => ?_, fun z => ?_⟩
    · obtain ⟨s1, s2⟩ := small z
      rw [hwn, s1, s2, Nat.zero_add]
      have hX : 2 ^ N = 2 * 2 ^ (N - 1) := by conv => lhs; rw [show N = (N - 1) + 1 by omega, Nat.pow_succ]
                                              omega
      have hXp := two_pos (N - 1)
      have hlt : m.natAbs < 2 ^ N := by have := Nat.mod_lt m.natAbs (two_pos N); omega
      have c0 : cls m.natAbs (2 ^ N) ≠ 0 := by unfold cls; split <;> (try split) <;> (try split) <;> omega
      have r1 : ∀ {x : Int}, (x = 1 ∨ x = -1) → mkr (St x 0) = mk x 0 := fun h => by rw [St_one h]
      have r0 : mkr (St 0 0) = p_fzero := by rw [St_zero]; exact mk_zero
      cases w <;> simp only [Way.isF, Way.isC, Way.isN, Bool.false_eq_true, or_self, or_false, false_or] at hw
      · have big : ∀ {b : Bool}, cls m.natAbs (2 ^ N) = 1 → mkr (St (sv b (up .n b 0 (cls m.natAbs (2 ^ N))).toNat) 0) = p_fzero := by
          intro b q; rw [q]; cases b <;> exact r0
        have two : ∀ {b : Bool}, cls m.natAbs (2 ^ N) = 2 → mkr (St (sv b (up .n b 0 (cls m.natAbs (2 ^ N))).toNat) 0) = p_fzero := by
          intro b q; rw [q]; cases b <;> exact r0
        have three : ∀ {b : Bool}, cls m.natAbs (2 ^ N) = 3 → mkr (St (sv b (up .n b 0 (cls m.natAbs (2 ^ N))).toNat) 0) = if b then p_fnone else p_fone := by
          intro b q; rw [q]
          cases b
          · exact r1 (.inl rfl)
          · exact r1 (.inr rfl)
        have cl : (2 * m.natAbs < 2 ^ N → cls m.natAbs (2 ^ N) = 1) ∧ (2 * m.natAbs = 2 ^ N → cls m.natAbs (2 ^ N) = 2) ∧ (2 ^ N < 2 * m.natAbs → cls m.natAbs (2 ^ N) = 3) := by
          unfold cls; refine ⟨fun z => ?_, fun z => ?_, fun z => ?_⟩ <;> (split <;> (try split) <;> (try split) <;> omega)
        have lo : 2 ^ (bl m - 1) ≤ m.natAbs := (bl_bounds hm).1
        have hbp := bl_pos hm
        simp only [Way.isC, Way.isF, Way.isN, Bool.false_eq_true, Bool.true_eq_false, false_implies, true_and, and_true, true_implies]
        refine ⟨fun z2 => big (cl.1 ?_), fun z2 => ⟨fun z3 => ?_, fun z3 => ⟨fun z4 => ?_, fun z4 => ?_⟩⟩⟩
        · have : 2 ^ (bl m + 1) ≤ 2 ^ N := Nat.pow_le_pow_right (by decide) (by omega)
          rw [Nat.pow_succ] at this; omega
        · have : m.natAbs = 1 := by omega
          have b1 : bl m = 1 := by rw [← bl_natAbs, this]; decide
          have : N = 1 := by omega
          subst this
          exact two (cl.2.1 (by omega))
        all_goals
          have q3 := three (b := decide (m < 0)) (cl.2.2 (by
            have hbN : bl m = N := by omega
            rw [hbN] at lo
            have hodd : m % 2 = 1 := by rcases h with h | h <;> omega
            have hN2 : 2 ≤ N := by
              refine Nat.le_of_not_lt fun z5 => ?_
              have : N = 1 := by omega
              subst this
              omega
            have hX2 : 2 ^ (N - 1) = 2 * 2 ^ (N - 2) := by conv => lhs; rw [show N - 1 = (N - 2) + 1 by omega, Nat.pow_succ]
                                                           omega
            omega))
          rw [q3]
        · rw [if_pos (by simp; omega)]
        · rw [if_neg (by simp; omega)]
      · simp only [Way.isC, Way.isF, Way.isN, Bool.false_eq_true, Bool.true_eq_false, false_implies, true_and, and_true, true_implies]
        refine ⟨fun z2 => ?_, fun z2 => ?_⟩
        · rw [decide_eq_true (by omega : m < 0)]; simp only [up, ne_eq, c0, not_false_eq_true, decide_true, Bool.and_self]
          exact r1 (.inr rfl)
        · rw [decide_eq_false (by omega : ¬ m < 0)]; simp only [up, Bool.and_false]
          exact r0
      · simp only [Way.isC, Way.isF, Way.isN, Bool.false_eq_true, Bool.true_eq_false, false_implies, true_and, and_true, true_implies]
        refine ⟨fun z2 => ?_, fun z2 => ?_⟩
        · rw [decide_eq_true (by omega : m < 0)]; simp only [up, Bool.not_true, Bool.and_false]
          exact r0
        · rw [decide_eq_false (by omega : ¬ m < 0)]; simp only [up, ne_eq, c0, not_false_eq_true, decide_true, Bool.not_false, Bool.and_self]
          exact r1 (.inl rfl)
    · rw [h4]; unfold q_mpf_round_int_5
      walk_at "vc"
      have e1 : (if -(N : Int) + bl m < bl m then -(N : Int) + bl m else (bl m : Int)) = ((bl m - N : Nat) : Int) := by rw [if_pos (by omega)]; omega
      rw [e1]
      have hp := pos_ok hK (w := w) (prec := bl m - N) (m := m) (e := -(N : Int)) h hz
      have hR := whole_R (w := w) (m := m) (e := -(N : Int)) hw q' hm (bits := bl m - N) (by omega) (by omega)
      unfold rz at hp
      rw [if_neg (by omega), hR] at hp
      exact callI hp (by decide) rfl
  refine ⟨fun q => ⟨fun q2 => absurd (o1 (by omega)) q2, fun _ => body⟩, fun _ => body⟩

theorem Odd0.whole {w : Way} {m e : Int} (h : Odd0 m e) : Odd0 (if 0 ≤ e then (m, e) else St (whole w m e) 0).1 (if 0 ≤ e then (m, e) else St (whole w m e) 0).2 := by
  split
  · exact h
  · exact St_can
/-- the whole part as a register: short, and the whole number -/
theorem whole_reg {w : Way} {m e : Int} (hw : w.isF = true ∨ w.isC = true ∨ w.isN = true) (h : Odd0 m e) :
    (bl (if 0 ≤ e then (m, e) else St (whole w m e) 0).1 ≤ max 1 (bl m)) ∧ (0 ≤ (if 0 ≤ e then (m, e) else St (whole w m e) 0).2) ∧ atB 0 (if 0 ≤ e then (m, e) else St (whole w m e) 0).1 (if 0 ≤ e then (m, e) else St (whole w m e) 0).2 = whole w m e := by
  by_cases he : 0 ≤ e
  · rw [if_pos he]
    refine ⟨by dsimp only; omega, he, ?_⟩
    unfold atB whole; rw [if_pos he]; simp
  · rw [if_neg he]
    have hm : m ≠ 0 := fun z => by rcases h with h | h <;> omega
    refine ⟨?_, ?_, ?_⟩
    · by_cases hb : 1 ≤ bl m + e
      · obtain ⟨bits, hbits⟩ : ∃ bits : Nat, (bits : Int) = bl m + e := ⟨(bl m + e).toNat, by omega⟩
        rw [← whole_R hw (by omega) hm hbits (by omega)]
        have := (R_can (w := w) (bits := bits) (n := m) (d := 1) (p := e) (by omega) (by decide)).2
        omega
      · obtain ⟨N, hN⟩ : ∃ N : Nat, e = -(N : Int) := ⟨(-e).toNat, by omega⟩
        subst hN
        have hwn := whole_nat (w := w) (neg := decide (m < 0)) (M := m.natAbs) (N := N) hw (by omega)
        rw [sv_natAbs] at hwn
        have b1 : m.natAbs < 2 ^ bl m := bl_le.mp (Nat.le_refl _)
        have : 2 ^ bl m ≤ 2 ^ N := Nat.pow_le_pow_right (by decide) (by omega)
        rw [hwn, Nat.div_eq_of_lt (by omega), Nat.zero_add]
        have hu : (up w (decide (m < 0)) 0 (cls (m.natAbs % 2 ^ N) (2 ^ N))).toNat = 0 ∨ (up w (decide (m < 0)) 0 (cls (m.natAbs % 2 ^ N) (2 ^ N))).toNat = 1 := by cases up w _ 0 _ <;> simp
        rcases hu with hu | hu <;> rw [hu]
        · rw [show sv (decide (m < 0)) 0 = 0 by cases decide (m < 0) <;> rfl, St_zero, bl_zero]; omega
        · rw [St_one (by cases decide (m < 0) <;> simp [sv])]
          have : bl (sv (decide (m < 0)) 1) = 1 := by rw [bl_sv]; decide
          show bl (sv (decide (m < 0)) 1) ≤ _
          omega
    · rcases St_at (n := whole w m e) (Int.le_refl 0) with h1 | h1
      · exact h1
      · rw [h1, St_zero]; decide
    · rw [atB_St (Int.le_refl 0)]; exact atB_self
theorem floor1_ok (hK : KK cx) {m e : Int} (h : Odd0 m e) (hz : bl m ≤ 2 ^ 26) : CallOK cx 111 5 [mk m e] (.ok (mkr (if 0 ≤ e then (m, e) else St (whole .f m e) 0))) := by
  refine w_mpf_floor1 hK rfl (s_mpf_floor fun R0 h0 => ?_)
  walk_at "vc"
  refine callI (round_int_ok hK (w := .f) (.inl rfl) h hz) (by decide) ?_
  rw [h0]; refine s_mpf_floor_1 fun R1 h1 => ?_
  walk_at "vc"
  rw [h1]; unfold q_mpf_floor_2; walk_at "vc"
theorem whole_rz {prec : Nat} {w w' : Way} {m e : Int} (hw : w.isF = true ∨ w.isC = true ∨ w.isN = true) (h : Odd0 m e) : rz prec w' (if 0 ≤ e then (m, e) else St (whole w m e) 0).1 (if 0 ≤ e then (m, e) else St (whole w m e) 0).2 = rz prec w' (whole w m e) 0 := by
  obtain ⟨h1, h2, h3⟩ := whole_reg hw h
  exact rz_at (B := 0) h2 (Int.le_refl 0) (by rw [h3, atB_self])
theorem floor3_ok (hK : KK cx) {w : Way} {prec : Nat} {m e : Int} (hp : 1 ≤ prec) (h : Odd0 m e) (hz : bl m ≤ 2 ^ 20) : CallOK cx 111 5 [mk m e, .int prec, .str w.s] (.ok (mkr (rz prec w (whole .f m e) 0))) := by
  refine w_mpf_floor3 hK rfl (s_mpf_floor fun R0 h0 => ?_)
  walk_at "vc"
  refine callI (round_int_ok hK (w := .f) (.inl rfl) h (by omega)) (by decide) ?_
  rw [h0]; refine s_mpf_floor_1 fun R1 h1 => ?_
  walk_at "vc"
  refine ⟨fun _ => ?_, fun q => absurd q (by omega)⟩
  have hp := pos_ok hK (w := w) (prec := prec) (Odd0.whole (w := .f) h) (by have := (whole_reg (w := .f) (.inl rfl) h).1; omega)
  rw [whole_rz (.inl rfl) h] at hp
  refine callI hp (by decide) ?_
  rw [h1]; unfold q_mpf_floor_2; walk_at "vc"
theorem ceil3_ok (hK : KK cx) {w : Way} {prec : Nat} {m e : Int} (hp : 1 ≤ prec) (h : Odd0 m e) (hz : bl m ≤ 2 ^ 20) : CallOK cx 119 5 [mk m e, .int prec, .str w.s] (.ok (mkr (rz prec w (whole .c m e) 0))) := by
  refine w_mpf_ceil3 hK rfl (s_mpf_ceil fun R0 h0 => ?_)
  walk_at "vc"
  refine callI (round_int_ok hK (w := .c) (.inr (.inl rfl)) h (by omega)) (by decide) ?_
  rw [h0]; refine s_mpf_ceil_1 fun R1 h1 => ?_
  walk_at "vc"
  refine ⟨fun _ => ?_, fun q => absurd q (by omega)⟩
  have hp := pos_ok hK (w := w) (prec := prec) (Odd0.whole (w := .c) h) (by have := (whole_reg (w := .c) (.inr (.inl rfl)) h).1; omega)
  rw [whole_rz (.inr (.inl rfl)) h] at hp
  refine callI hp (by decide) ?_
  rw [h1]; unfold q_mpf_ceil_2; walk_at "vc"
theorem nint3_ok (hK : KK cx) {w : Way} {prec : Nat} {m e : Int} (hp : 1 ≤ prec) (h : Odd0 m e) (hz : bl m ≤ 2 ^ 20) : CallOK cx 127 5 [mk m e, .int prec, .str w.s] (.ok (mkr (rz prec w (whole .n m e) 0))) := by
  refine w_mpf_nint3 hK rfl (s_mpf_nint fun R0 h0 => ?_)
  walk_at "vc"
  refine callI (round_int_ok hK (w := .n) (.inr (.inr rfl)) h (by omega)) (by decide) ?_
  rw [h0]; refine s_mpf_nint_1 fun R1 h1 => ?_
  walk_at "vc"
  refine ⟨fun _ => ?_, fun q => absurd q (by omega)⟩
  have hp := pos_ok hK (w := w) (prec := prec) (Odd0.whole (w := .n) h) (by have := (whole_reg (w := .n) (.inr (.inr rfl)) h).1; omega)
  rw [whole_rz (.inr (.inr rfl)) h] at hp
  refine callI hp (by decide) ?_
  rw [h1]; unfold q_mpf_nint_2; walk_at "vc"
end Mine

namespace Mine
open PySem PySem.W PySem.Calls PyProof.Rows PySem.Spec
variable {cx : Cx}
local macro_rules | `(tactic| walk_at "vc") => `(tactic| simp only [tSeq, tSet, tIf, tRet, tSkip, tAug, tAssert, tBin, tTest, tName, tInt, tGlob, tStr, tBool, tNone, tTruth, tNotT, tTrue, tFalse, tAndT, tOrT, tIfE, tNeg, tNot, tOr, tAnd, tNil, tCons, tTup, tList, tSub, tDict, tBl, tB, tCall, tTypeIs, tIsInt, tUnpack, tUnpackR, tBrk, tCont, tRaise,
  slotQ, boolQ, truthQ, intQ, tupQ_tuple, listQ, strQ, subQ_t0, subQ_t1, subQ_l0, subQ_str, kI, kB, kAbs, kInt, kMin, kMax, kDivmod, setAll_cons, setAll_nil, outQ_ok, outQ_err, callPost_rt, callPost_nx, callPost_xx, turnP, kEq_int, kNe_int, kEq_n, kEq_f, kEq_c, kEq_u, kEq_p4, kNe_p4,
  List.getD_cons_zero, List.getD_cons_succ, List.set_cons_zero, List.set_cons_succ, valSlots, List.map_cons, List.map_nil, List.nil_append, List.cons_append, List.append_nil, List.replicate_succ, List.replicate_zero, List.length_cons, List.length_nil,
  true_and, and_true, bne_iff_ne, ne_eq, Bool.not_eq_true', Bool.not_eq_false', decide_eq_true_eq, decide_eq_false_iff_not, beq_iff_eq, beq_eq_false_iff_ne, bne_eq_false_iff_eq, Decidable.not_not, true_implies, Bool.true_eq_false, Bool.false_eq_true, false_implies, implies_true, not_true_eq_false, not_false_eq_true, reduceCtorEq, ok_inj, err_inj, tupQ_mk, subQ_m0, subQ_m1, kEq_mk, sn_z, natAbs_z, natCast_z, kEq_mm, kNe_mm, bl_m1, bl_m2, bl_m3, Bool.and_false, Bool.false_and, Bool.not_false, Bool.not_true, Bool.and_true, Bool.true_and, Bool.and_eq_true, Bool.and_eq_false_iff])
theorem St_exp_le {n p : Int} (h : n ≠ 0) : (St n p).2 ≤ p + bl n := by
  obtain ⟨k, g1, g2, g3⟩ := St_val (p := p) h
  have : k < bl n := bl_lt.mpr (by
    rw [g1, Int.natAbs_mul, Int.natAbs_pow]
    exact Nat.le_mul_of_pos_left _ (by omega))
  omega
theorem whole_bl {w : Way} {m e : Int} (hw : w.isF = true ∨ w.isC = true ∨ w.isN = true) (he : e < 0) : bl (whole w m e) ≤ bl m + 1 := by
  obtain ⟨N, hN⟩ : ∃ N : Nat, e = -(N : Int) := ⟨(-e).toNat, by omega⟩
  subst hN
  have hwn := whole_nat (w := w) (neg := decide (m < 0)) (M := m.natAbs) (N := N) hw (by omega)
  rw [sv_natAbs] at hwn
  rw [hwn]
  refine bl_le.mpr ?_
  rw [sv_abs, Nat.pow_succ]
  have b1 : m.natAbs < 2 ^ bl m := bl_le.mp (Nat.le_refl _)
  have b2 : m.natAbs / 2 ^ N ≤ m.natAbs := Nat.div_le_self _ _
  have hu : (up w (decide (m < 0)) (m.natAbs / 2 ^ N) (cls (m.natAbs % 2 ^ N) (2 ^ N))).toNat ≤ 1 := by cases up w _ _ _ <;> decide
  have := two_pos (bl m)
  omega
theorem whole_exp {w : Way} {m e : Int} (hw : w.isF = true ∨ w.isC = true ∨ w.isN = true) (hz : bl m ≤ 2 ^ 16) (he : -(2 ^ 16) ≤ e ∧ e ≤ 2 ^ 16) : (if 0 ≤ e then (m, e) else St (whole w m e) 0).2 ≤ 2 ^ 18 := by
  by_cases h : 0 ≤ e
  · rw [if_pos h]; dsimp only; omega
  · rw [if_neg h]
    by_cases hn : whole w m e = 0
    · rw [hn, St_zero]; decide
    · have := St_exp_le (p := 0) hn
      have := whole_bl (m := m) hw (show e < 0 by omega)
      omega
/-- the fraction left -/
theorem frac_ok (hK : KK cx) {w : Way} {prec : Nat} {m e : Int} (hp : 1 ≤ prec) (hp2 : prec ≤ 2 ^ 20) (hb : bl m ≤ prec) (h : Odd0 m e) (hz : bl m ≤ 2 ^ 16) (he : -(2 ^ 16) ≤ e ∧ e ≤ 2 ^ 16) :
    CallOK cx 135 6 [mk m e, .int prec, .str w.s] (.ok (mkr (rz prec w (sumN m e (-(whole .f m e)) 0) (min e 0)))) := by
  refine w_mpf_frac3 hK rfl ?_
  unfold q_mpf_frac
  walk_at "vc"
  refine callI (floor1_ok hK h (by omega)) (by decide) ?_
  have hx := whole_exp (w := .f) (.inl rfl) hz he
  have ho := h.whole (w := .f)
  obtain ⟨r1, r2, r3⟩ := whole_reg (w := .f) (.inl rfl) h
  generalize (if 0 ≤ e then (m, e) else St (whole .f m e) 0) = F at *
  have hs := subt_ok hK (w := w) (prec := prec) h ho (by omega) (by omega) (by omega) (by omega) (.inr (.inl ⟨hb, by omega, hp2⟩))
  have e1 : rz prec w (sumN m e (-F.1) F.2) (min e F.2) = rz prec w (sumN m e (-(whole .f m e)) 0) (min e 0) := by
    refine rz_at (B := min e 0) (by omega) (by omega) ?_
    rw [atB_sum (by omega) (by omega), atB_sum (by omega) (by omega)]
    congr 1
    rw [← r3]
    rw [show atB (min e 0) (-atB 0 F.1 F.2) 0 = -(atB 0 F.1 F.2 * 2 ^ (0 - min e 0).toNat) by unfold atB; rw [Int.neg_mul], ← atB_shift (by omega) r2]
    unfold atB; rw [Int.neg_mul]
  rw [e1] at hs
  exact callI hs (by decide) rfl
/-- a product with a whole number -/
theorem mul_int_ok (hK : KK cx) {w : Way} {prec : Nat} {m e n : Int} (hp : 1 ≤ prec) (h : Odd0 m e) (hz : bl m ≤ 2 ^ 16) (hn : bl n ≤ 2 ^ 16) :
    CallOK cx 262 5 [mk m e, .int n, .int prec, .str w.s] (.ok (mkr (rz prec w (m * n) e))) := by
  refine w_mpf_mul_int4 hK rfl (s_mpf_mul_int fun R0 h0 => ?_)
  walk_at "vc"
  rw [h0]; refine s_mpf_mul_int_1 fun R1 h1 => ?_
  walk_at "vc"
  have o1 : m = 0 → e = 0 := fun q => by rcases h with h | h <;> omega
  refine ⟨fun q => ?_, fun q => ?_⟩
  · have hm : m = 0 := by omega
    refine callI (from_int1_ok hK) (by decide) ?_
    have hb : bl (St n 0).1 ≤ 2 ^ 20 := by
      unfold St
      have := (R_can (w := .d) (bits := max 1 (bl n)) (n := n) (d := 1) (p := 0) (by omega) (by decide)).2
      omega
    have hc := mul4_ok hK (w := w) (prec := prec) h (St_can (n := n) (p := 0)) (by omega) hb
    have e0 : rz prec w (m * (St n 0).1) (e + (St n 0).2) = (0, 0) := by rw [hm, Int.zero_mul, rz_zero]
    rw [e0] at hc
    refine callI hc (by decide) ?_
    rw [hm, Int.zero_mul, rz_zero]; exact rfl
  · have hm : m ≠ 0 := by omega
    rw [h1]; refine s_mpf_mul_int_2 fun R2 h2 => ?_
    walk_at "vc"
    refine ⟨fun q2 => ?_, fun q2 => ?_⟩
    · rw [q2, Int.mul_zero, rz_zero]; exact mk_zero
    · rw [h2]; refine s_mpf_mul_int_3 fun R3 h3 => ?_
      walk_at "vc"
      have body : ∀ {s N : Int}, s = sn (m * n) → N = n.natAbs → R3 [.val (mk m e), .val (.int N), .val (.int prec), .val (.str w.s), .val (.int s), .val (.int m.natAbs), .val (.int e), .val (.int (bl m))] [] (callPost (.ok (mkr (rz prec w (m * n) e)))) := by
        intro s N hs hN
        subst hN
        have hmn : ((m.natAbs : Int) * n.natAbs) = ((m * n).natAbs : Nat) := by rw [Int.natAbs_mul]; push_cast; rfl
        have hmn0 : m * n ≠ 0 := fun z => by rcases Int.mul_eq_zero.mp z with z | z <;> omega
        have hbmn := bl_mul m n
        rw [h3]; refine s_mpf_mul_int_4 fun R4 h4 => ?_
        walk_at "vc"
        rw [bl_natAbs, bl_natAbs]
        refine ⟨⟨by omega, by omega⟩, ?_⟩
        rw [hmn, h4]; refine s_mpf_mul_int_5 fun R5 h5 => ?_
        walk_at "vc"
        rw [bl_natAbs]
        have p1 := bl_pos hm
        have p2 := bl_pos q2
        rw [h5]; refine s_mpf_mul_int_6 fun R6 h6 => ?_
        walk_at "vc"
        have ek : (bl m : Int) + ((bl n : Int) - 1) = ((bl m + bl n - 1 : Nat) : Int) := by omega
        refine ⟨by omega, ?_⟩
        have hbl : (bl m : Int) + ((bl n : Int) - 1) + (((m * n).natAbs : Nat) : Int).fdiv (2 ^ ((bl m : Int) + ((bl n : Int) - 1)).toNat) = (bl (m * n) : Nat) := by
          rw [ek, Int.toNat_natCast, fdiv_nat]
          have c1 := bl_bounds hm
          have c2 := bl_bounds q2
          have c3 : (m * n).natAbs = m.natAbs * n.natAbs := Int.natAbs_mul _ _
          have lo : 2 ^ (bl m + bl n - 2) ≤ (m * n).natAbs := by
            rw [c3, show bl m + bl n - 2 = (bl m - 1) + (bl n - 1) by omega, Nat.pow_add]
            exact Nat.mul_le_mul c1.1 c2.1
          have hi : (m * n).natAbs < 2 ^ (bl m + bl n) := by
            rw [c3, Nat.pow_add]
            exact Nat.mul_lt_mul_of_lt_of_le c1.2 (Nat.le_of_lt c2.2) (two_pos _)
          by_cases hc : (m * n).natAbs < 2 ^ (bl m + bl n - 1)
          · rw [Nat.div_eq_of_lt hc]
            have : bl (m * n) = bl m + bl n - 2 + 1 := bl_eq lo (by rw [show bl m + bl n - 2 + 1 = bl m + bl n - 1 by omega]; exact hc)
            omega
          · have h1 : (m * n).natAbs / 2 ^ (bl m + bl n - 1) = 1 := by
              have e2 : 2 ^ (bl m + bl n) = 2 * 2 ^ (bl m + bl n - 1) := by conv => lhs; rw [show bl m + bl n = (bl m + bl n - 1) + 1 by omega, Nat.pow_succ]
                                                                            omega
              exact Nat.div_eq_of_lt_le (by omega) (by omega)
            rw [h1]
            have : bl (m * n) = bl m + bl n - 1 + 1 := bl_eq (by omega) (by rw [show bl m + bl n - 1 + 1 = bl m + bl n by omega]; exact hi)
            omega
        rw [hbl]
        rw [h6]; unfold q_mpf_mul_int_7
        walk_at "vc"
        exact callI (normZ hK (w := w) (prec := prec) (n := m * n) (exp := e) (by omega) (fun _ => hs) (by rw [hs]; exact sn01 _) rfl rfl (by rw [if_neg (by omega)]) rfl) (by decide) rfl
      have hxs := xor_sn hm q2
      have hsn := sn_def n
      refine ⟨fun z => body ?_ (by omega), fun z => body ?_ (by omega)⟩
      · rw [← hxs, show sn n = 1 by omega]
      · rw [← hxs, show sn n = 0 by omega]
        rcases sn01 m with z | z <;> rw [z] <;> decide

theorem pow_abs (m : Int) (k : Nat) : (m ^ k).natAbs = m.natAbs ^ k := Int.natAbs_pow m k
theorem odd_pow {m : Int} (h : m % 2 = 1) : ∀ k : Nat, m ^ k % 2 = 1
  | 0 => by rw [Int.pow_zero]; rfl
  | k + 1 => by rw [Int.pow_succ, Int.mul_emod, odd_pow h k, h]; rfl
theorem bl_pow_le (m : Int) (k : Nat) : bl (m ^ k) ≤ bl m * k + 1 := intBits_pow_le (Nat.le_refl _) k
theorem and_sn {m : Int} {k : Nat} (hm : m ≠ 0) : Builtin.bitAnd (sn m) (k : Int) = sn (m ^ k) := by
  rw [bitAnd_comm]
  have hk : Builtin.bitAnd (k : Int) (sn m) = if m < 0 ∧ k % 2 = 1 then 1 else 0 := by
    have := sn_def m
    rcases sn01 m with h | h
    · rw [h, if_neg (by omega)]
      have := kbt_mask (k : Int) 0
      simpa using this
    · rw [h, bitAnd_m1]
      split <;> omega
  rw [hk]
  by_cases hn : m < 0
  · by_cases ho : k % 2 = 1
    · rw [if_pos ⟨hn, ho⟩]
      have : m ^ k < 0 := by
        obtain ⟨i, rfl⟩ : ∃ i, k = 2 * i + 1 := ⟨k / 2, by omega⟩
        rw [Int.pow_succ, Int.pow_mul]
        exact Int.mul_neg_of_pos_of_neg (Int.pow_pos (by rw [show m ^ 2 = m * m by grind]; exact Int.mul_pos_of_neg_of_neg hn hn)) hn
      unfold sn; rw [if_pos this]
    · rw [if_neg (by omega)]
      have : 0 < m ^ k := by
        obtain ⟨i, rfl⟩ : ∃ i, k = 2 * i := ⟨k / 2, by omega⟩
        rw [Int.pow_mul]
        exact Int.pow_pos (by rw [show m ^ 2 = m * m by grind]; exact Int.mul_pos_of_neg_of_neg hn hn)
      unfold sn; rw [if_neg (by omega)]
  · rw [if_neg (by omega)]
    have : 0 < m ^ k := Int.pow_pos (by omega)
    unfold sn; rw [if_neg (by omega)]
/-- small powers -/
theorem pow_ok (hK : KK cx) {w : Way} {prec : Nat} {m e : Int} {n : Nat} (hp : 1 ≤ prec) (h : Odd0 m e) (hz : bl m ≤ 150) (hn : n ≤ 5) (he : -(2 ^ 16) ≤ e ∧ e ≤ 2 ^ 16) :
    CallOK cx 309 4 [mk m e, .int n, .int prec, .str w.s] (.ok (mkr (rz prec w (m ^ n) (e * n)))) := by
  have o1 : m = 0 → e = 0 := fun q => by rcases h with h | h <;> omega
  refine w_mpf_pow_int4 hK rfl (s_mpf_pow_int fun R0 h0 => ?_)
  walk_at "vc"
  rw [h0]; refine s_mpf_pow_int_1 fun R1 h1 => ?_
  walk_at "vc"
  have body : R1 [.val (mk m e), .val (.int n), .val (.int prec), .val (.str w.s), .val (.int (sn m)), .val (.int m.natAbs), .val (.int e), .val (.int (bl m)), .undef, .undef, .undef, .undef, .undef, .undef, .undef, .undef] [] (callPost (.ok (mkr (rz prec w (m ^ n) (e * n))))) := by
    have hz26 : bl (m ^ n) ≤ 2 ^ 26 := by
      have := bl_pow_le m n
      have := Nat.mul_le_mul hz hn
      omega
    have hcan : Odd0 (m ^ n) (e * n) ∨ m = 0 := by
      rcases h with h | h
      · exact .inl (.inl (odd_pow h n))
      · exact .inr h.1
    rw [h1]; refine s_mpf_pow_int_2 fun R2 h2 => ?_
    walk_at "vc"
    rw [h2]; refine s_mpf_pow_int_3 fun R3 h3 => ?_
    walk_at "vc"
    refine ⟨fun q => ?_, fun q => ?_⟩
    · subst q
      have e0 : rz prec w (m ^ 0) (e * ((0 : Nat) : Int)) = (1, 0) := by
        rw [Int.pow_zero, show e * ((0 : Nat) : Int) = 0 by simp]
        exact rz_self (.inl rfl) (.inr (by rw [bl_one]; exact hp))
      rw [e0]; rfl
    rw [h3]; refine s_mpf_pow_int_4 fun R4 h4 => ?_
    walk_at "vc"
    refine ⟨fun q1 => ?_, fun q1 => ?_⟩
    · have : n = 1 := by omega
      subst this
      have hc := pos_ok hK (w := w) (prec := prec) h (by omega)
      refine callI hc (by decide) ?_
      rw [show m ^ 1 = m by grind, show e * ((1 : Nat) : Int) = e by simp]; exact rfl
    rw [h4]; refine s_mpf_pow_int_5 fun R5 h5 => ?_
    walk_at "vc"
    refine ⟨fun q2 => ?_, fun q2 => ?_⟩
    · have : n = 2 := by omega
      subst this
      have hmm : ((m.natAbs : Int) * m.natAbs) = ((m ^ 2).natAbs : Nat) := by rw [Int.natAbs_pow]; push_cast; grind
      rw [hmm]
      refine ⟨fun z => ?_, fun z => ?_⟩
      · have : m = 0 := by omega
        rw [this, show (0 : Int) ^ 2 = 0 by decide, rz_zero]; exact mk_zero
      have hm : m ≠ 0 := by omega
      have hm2 : m ^ 2 ≠ 0 := by
        rw [show m ^ 2 = m * m by grind]; intro z2; rcases Int.mul_eq_zero.mp z2 with z2 | z2 <;> omega
      have hpos : 0 ≤ m ^ 2 := by rw [show m ^ 2 = m * m by grind]; rcases Int.le_total 0 m with z2 | z2; exact Int.mul_nonneg z2 z2; exact Int.mul_nonneg_of_nonpos_of_nonpos z2 z2
      have hs : sn (m ^ 2) = 0 := by unfold sn; rw [if_neg (by omega)]
      have ee : e * ((2 : Nat) : Int) = e + e := by omega
      have p1 := bl_pos hm
      have hbl : (bl m : Int) + bl m - 2 + (bl ((((m ^ 2).natAbs : Nat) : Int).fdiv (2 ^ ((bl m : Int) + bl m - 2).toNat)) : Nat) = (bl (m ^ 2) : Nat) := by
        have ek : (bl m : Int) + bl m - 2 = ((bl m + bl m - 2 : Nat) : Int) := by omega
        rw [ek, Int.toNat_natCast, fdiv_nat]
        have c1 := bl_bounds hm
        have c3 : (m ^ 2).natAbs = m.natAbs * m.natAbs := by rw [Int.natAbs_pow]; grind
        have lo : 2 ^ (bl m + bl m - 2) ≤ (m ^ 2).natAbs := by
          rw [c3, show bl m + bl m - 2 = (bl m - 1) + (bl m - 1) by omega, Nat.pow_add]
          exact Nat.mul_le_mul c1.1 c1.1
        have hi : (m ^ 2).natAbs < 2 ^ (bl m + bl m) := by
          rw [c3, Nat.pow_add]
          exact Nat.mul_lt_mul_of_lt_of_le c1.2 (Nat.le_of_lt c1.2) (two_pos _)
        have e4 : 2 ^ (bl m + bl m) = 4 * 2 ^ (bl m + bl m - 2) := by conv => lhs; rw [show bl m + bl m = (bl m + bl m - 2) + 2 by omega, Nat.pow_add]
                                                                      omega
        have e2 : 2 ^ (bl m + bl m - 2 + 1) = 2 * 2 ^ (bl m + bl m - 2) := by rw [Nat.pow_succ]; omega
        by_cases hc : (m ^ 2).natAbs < 2 ^ (bl m + bl m - 2 + 1)
        · have h1 : (m ^ 2).natAbs / 2 ^ (bl m + bl m - 2) = 1 := Nat.div_eq_of_lt_le (by omega) (by omega)
          rw [h1]
          have : bl (m ^ 2) = bl m + bl m - 2 + 1 := bl_eq lo hc
          have b1 : bl ((1 : Nat) : Int) = 1 := by decide
          omega
        · have h1 : 2 ≤ (m ^ 2).natAbs / 2 ^ (bl m + bl m - 2) := (Nat.le_div_iff_mul_le (two_pos _)).mpr (by omega)
          have h2 : (m ^ 2).natAbs / 2 ^ (bl m + bl m - 2) < 4 := (Nat.div_lt_iff_lt_mul (two_pos _)).mpr (by omega)
          have : bl (m ^ 2) = bl m + bl m - 2 + 1 + 1 := bl_eq (by omega) (by rw [Nat.pow_succ, e2]; omega)
          have b1 : bl (((m ^ 2).natAbs / 2 ^ (bl m + bl m - 2) : Nat) : Int) = 1 + 1 := bl_nat_eq (by omega) (by omega)
          omega
      rw [hbl, bl_natAbs]
      refine ⟨⟨by omega, by omega⟩, fun z2 => ⟨by simp, ?_⟩, fun z2 => ⟨by omega, ?_⟩⟩
      · have : m ^ 2 = 1 := by omega
        rw [this, ee, rz_self (.inl rfl) (.inr (by rw [bl_one]; exact hp))]
        rfl
      · have hc := normZ hK (w := w) (prec := prec) (n := m ^ 2) (exp := e + e) (s := 0) (M := (m ^ 2).natAbs) (b := bl (m ^ 2)) (P := prec) hz26 (fun _ => hs.symm) (.inl rfl) rfl rfl (by rw [if_neg (by omega)]) rfl
        refine callI hc (by decide) ?_
        rw [ee]; exact rfl
    · rw [h5]; refine s_mpf_pow_int_6 fun R6 h6 => ?_
      walk_at "vc"
      rw [h6]; refine s_mpf_pow_int_7 fun R7 h7 => ?_
      have nneg : ¬ ((n : Nat) : Int) = -1 := by omega
      have e1 : (((n : Nat) : Int) == -1) = false := beq_eq_false_iff_ne.mpr nneg
      unfold tSeq tIf tTest tBin tName tInt slotQ
      refine ⟨fun z => absurd (of_decide_eq_true z) (by omega), fun _ => ?_⟩
      show R7 _ _ _
      rw [h7]; refine s_mpf_pow_int_8 fun R8 h8 => ?_
      walk_at "vc"
      rw [h8]; refine s_mpf_pow_int_9 fun R9 h9 => ?_
      walk_at "vc"
      have hres : m ≠ 0 → Builtin.bitAnd (sn m) (n : Int) = sn (m ^ n) := fun z => and_sn z
      have hres0 : m = 0 → Builtin.bitAnd (sn m) (n : Int) = 0 := by
        intro z; rw [z, show sn 0 = 0 by decide]
        have := kbt_mask' (n : Int) 0
        simpa using this
      have h01 : Builtin.bitAnd (sn m) (n : Int) = 0 ∨ Builtin.bitAnd (sn m) (n : Int) = 1 := by
        by_cases z : m = 0
        · exact .inl (hres0 z)
        · rw [hres z]; exact sn01 _
      generalize hrs : Builtin.bitAnd (sn m) (n : Int) = rs at *
      refine ⟨fun z => ?_, fun z => ?_⟩
      · have b1 : bl e ≤ 17 := bl_le.mpr (by omega)
        have b2 : bl (n : Int) ≤ 3 := bl_le.mpr (by omega)
        refine ⟨⟨by omega, by omega⟩, by simp, ?_⟩
        have hm : m ≠ 0 := by omega
        have hab : (m ^ n).natAbs = 1 := by rw [Int.natAbs_pow, show m.natAbs = 1 by omega]; simp
        have hodd : Odd0 (m ^ n) (e * n) := by rcases hcan with z2 | z2; exact z2; exact absurd z2 hm
        have hb1 : bl (m ^ n) = 1 := by rw [← bl_natAbs, hab]; decide
        rw [rz_self hodd (.inr (by omega)), hres hm]
        show p4 (sn (m ^ n)) ((m ^ n).natAbs : Nat) (e * n) (bl (m ^ n) : Nat) = _
        rw [hab, hb1]; rfl
      · rw [h9]; refine s_mpf_pow_int_10 fun R10 h10 => ?_
        have b1 : bl e ≤ 17 := bl_le.mpr (by omega)
        have b2 : bl (n : Int) ≤ 3 := bl_le.mpr (by omega)
        have b3 : bl (bl m : Int) ≤ 10 := bl_le.mpr (by omega)
        have hbn : (bl m : Int) * n ≤ 750 := by
          have := Nat.mul_le_mul hz hn
          have e4 : ((bl m * n : Nat) : Int) = (bl m : Int) * n := by push_cast; rfl
          omega
        walk_at "vc"
        refine ⟨⟨by omega, by omega⟩, fun _ => ⟨⟨by omega, by rw [bl_natAbs]; omega⟩, ⟨by omega, by omega⟩, ?_⟩, fun z2 => absurd z2 (by omega)⟩
        have hpw : ((m.natAbs : Int) ^ ((n : Nat) : Int).toNat) = ((m ^ n).natAbs : Nat) := by rw [Int.toNat_natCast, Int.natAbs_pow]; push_cast; rfl
        rw [hpw, bl_natAbs]
        have hc := normZ hK (w := w) (prec := prec) (n := m ^ n) (exp := e * n) (s := rs) (M := (m ^ n).natAbs) (b := bl (m ^ n)) (P := prec) hz26 (fun z2 => hres (fun z3 => z2 (by rw [z3, Int.zero_pow (by omega)]))) h01 rfl rfl (by rw [if_neg (by omega)]) rfl
        exact callI hc (by decide) rfl
  refine ⟨fun q => ⟨fun q2 => absurd (o1 (by omega)) q2, fun _ => body⟩, fun _ => body⟩
end Mine

namespace Mine
open PySem PySem.W PySem.Calls PyProof.Rows PySem.Spec
variable {cx : Cx}
local macro_rules | `(tactic| walk_at "vc") => `(tactic| simp only [tSeq, tSet, tIf, tRet, tSkip, tAug, tAssert, tBin, tTest, tName, tInt, tGlob, tStr, tBool, tNone, tTruth, tNotT, tTrue, tFalse, tAndT, tOrT, tIfE, tNeg, tNot, tOr, tAnd, tNil, tCons, tTup, tList, tSub, tDict, tBl, tB, tCall, tTypeIs, tIsInt, tUnpack, tUnpackR, tBrk, tCont, tRaise,
  slotQ, boolQ, truthQ, intQ, tupQ_tuple, listQ, strQ, subQ_t0, subQ_t1, subQ_l0, subQ_str, kI, kB, kAbs, kInt, kMin, kMax, kDivmod, setAll_cons, setAll_nil, outQ_ok, outQ_err, callPost_rt, callPost_nx, callPost_xx, turnP, kEq_int, kNe_int, kEq_n, kEq_f, kEq_c, kEq_u, kEq_p4, kNe_p4,
  List.getD_cons_zero, List.getD_cons_succ, List.set_cons_zero, List.set_cons_succ, valSlots, List.map_cons, List.map_nil, List.nil_append, List.cons_append, List.append_nil, List.replicate_succ, List.replicate_zero, List.length_cons, List.length_nil,
  true_and, and_true, bne_iff_ne, ne_eq, Bool.not_eq_true', Bool.not_eq_false', decide_eq_true_eq, decide_eq_false_iff_not, beq_iff_eq, beq_eq_false_iff_ne, bne_eq_false_iff_eq, Decidable.not_not, true_implies, Bool.true_eq_false, Bool.false_eq_true, false_implies, implies_true, not_true_eq_false, not_false_eq_true, reduceCtorEq, ok_inj, err_inj, tupQ_mk, subQ_m0, subQ_m1, kEq_mk, sn_z, natAbs_z, natCast_z, kEq_mm, kNe_mm, bl_m1, bl_m2, bl_m3, Bool.and_false, Bool.false_and, Bool.not_false, Bool.not_true, Bool.and_true, Bool.true_and, Bool.and_eq_true, Bool.and_eq_false_iff])
/-- a quotient with one odd half for what is left -/
theorem div_core {w : Way} {prec : Nat} {neg : Bool} {a d x Q r : Nat} {p : Int} (hp : 1 ≤ prec) (hd : 0 < d) (h : a * 2 ^ x = d * Q + r) (hr : r < d) (hQ : 2 ^ prec ≤ Q) :
    (r = 0 → R w prec (sv neg Q) 1 (p - x) = R w prec (sv neg a) d p) ∧ (r ≠ 0 → R w prec (sv neg (2 * Q + 1)) 1 (p - (x + 1)) = R w prec (sv neg a) d p) := by
  have svm : ∀ y z : Nat, sv neg (y * z) = sv neg y * z := by intro y z; cases neg <;> simp [sv, Int.neg_mul]
  constructor
  · intro h0
    refine R_congr (i := 0) (i' := x) hp (by decide) hd ?_ (by omega)
    have e1 : sv neg Q * d = sv neg (d * Q) := by rw [Nat.mul_comm, svm]
    have e2 : sv neg a * 2 ^ x = sv neg (a * 2 ^ x) := by rw [svm]; push_cast; rfl
    rw [Int.pow_zero, Int.mul_one, e1, e2, h, h0]; simp
  · intro h0
    have hN : 0 < 2 ^ prec := two_pos prec
    have e : R w prec (sv neg a) d p = R w prec (sv neg (a * 2 ^ x)) d (p - x) := by
      refine R_congr (i := x) (i' := 0) hp hd hd ?_ (by omega)
      rw [svm]; push_cast; simp
    rw [e]
    have e3 : R w prec (sv neg (2 * Q + 1)) 1 (p - (x + 1)) = R w prec (sv neg (2 * Q + 1)) 2 (p - x) := by
      refine R_congr (i := 0) (i' := 1) hp (by decide) (by decide) ?_ (by omega)
      simp
    rw [e3]
    have e4 : (Q + 1) * d = d * Q + d := by grind
    have e5 : Q * d = d * Q := Nat.mul_comm _ _
    exact R_between (N := Q) hp (by omega) (by omega) (by omega) (by omega) hQ

/-- the quotient as the law writes it -/
noncomputable def quo (w : Way) (prec : Nat) (m e m' e' : Int) : Int × Int := R w prec (if 0 < m' then m else -m) m'.natAbs (e - e')
theorem sv_quo {m m' : Int} (hm : m ≠ 0) (hm' : m' ≠ 0) : sv (decide (m * m' < 0)) m.natAbs = if 0 < m' then m else -m := by
  rcases (by omega : m < 0 ∨ 0 < m) with h1 | h1 <;> rcases (by omega : m' < 0 ∨ 0 < m') with h2 | h2
  · have := Int.mul_pos_of_neg_of_neg h1 h2
    rw [decide_eq_false (by omega), if_neg (by omega)]; show (m.natAbs : Int) = -m; omega
  · have := Int.mul_neg_of_neg_of_pos h1 h2
    rw [decide_eq_true this, if_pos h2]; show -(m.natAbs : Int) = m; omega
  · have := Int.mul_neg_of_pos_of_neg h1 h2
    rw [decide_eq_true this, if_neg (by omega)]; show -(m.natAbs : Int) = -m; omega
  · have := Int.mul_pos h1 h2
    rw [decide_eq_false (by omega), if_pos h2]; show (m.natAbs : Int) = m; omega

theorem zz0 {m e : Int} (o : m = 0 → e = 0) (q : m.natAbs = 0) (q2 : ¬0 ≤ m ∨ ¬m.natAbs = 0 ∨ ¬e = 0 ∨ ¬bl m = 0) : False := by
  have hm : m = 0 := by omega
  have := o hm
  subst hm; subst this
  rw [bl_zero] at q2; omega
theorem div_ok (hK : KK cx) {w : Way} {prec : Nat} {m e m' e' : Int} (hp : 1 ≤ prec) (hp2 : prec ≤ 2 ^ 16) (h : Odd0 m e) (h' : Odd0 m' e') (hz : bl m ≤ 5000) (hz' : bl m' ≤ 5000) :
    CallOK cx 284 3 [mk m e, mk m' e', .int prec, .str w.s] (if m' = 0 then .error .zde else .ok (mkr (quo w prec m e m' e'))) := by
  have o1 : m = 0 → e = 0 := fun q => by rcases h with h | h <;> omega
  have o2 : m' = 0 → e' = 0 := fun q => by rcases h' with h | h <;> omega
  refine w_mpf_div4 hK rfl (s_mpf_div fun R0 h0 => ?_)
  walk_at "vc"
  rw [h0]; refine s_mpf_div_1 fun R1 h1 => ?_
  walk_at "vc"
  rw [h1]; refine s_mpf_div_2 fun R2 h2 => ?_
  generalize hout : (if m' = 0 then Except.error Exn.zde else Except.ok (mkr (quo w prec m e m' e'))) = out
  walk_at "vc"
  have er : m' = 0 → out = .error .zde := fun q => by rw [← hout, if_pos q]
  have ok : m' ≠ 0 → out = .ok (mkr (quo w prec m e m' e')) := fun q => by rw [← hout, if_neg q]
  have na : ∀ {x : Int}, x.natAbs = 0 → x = 0 := by intro x; omega
  have fz : m = 0 → m' ≠ 0 → out = .ok p_fzero := by
    intro q q'
    rw [ok q']
    unfold quo
    rw [show (if 0 < m' then m else -m) = 0 by rw [q]; simp, R_zero hp (by omega)]
    exact congrArg _ mk_zero
  have body : m ≠ 0 → m' ≠ 0 → R2 [.val (mk m e), .val (mk m' e'), .val (.int prec), .val (.str w.s), .val (.int (sn m)), .val (.int m.natAbs), .val (.int e), .val (.int (bl m)), .val (.int (sn m')), .val (.int m'.natAbs), .val (.int e'), .val (.int (bl m')), .undef, .undef, .undef, .undef, .undef, .undef, .undef] [] (callPost out) := by
    intro hm hm'
    rw [ok hm']
    clear hout er fz ok
    have p1 := bl_pos hm
    have p2 := bl_pos hm'
    rw [h2]; refine s_mpf_div_3 fun R3 h3 => ?_
    walk_at "vc"
    rw [xor_sn hm hm']
    have hmm : m * m' ≠ 0 := fun z => by rcases Int.mul_eq_zero.mp z with z | z <;> omega
    have hsv := sv_quo hm hm'
    have hsg : sn (m * m') = sg (decide (m * m' < 0)) := sn_sg _
    rw [h3]; refine s_mpf_div_4 fun R4 h4 => ?_
    walk_at "vc"
    have nsg : ∀ {N : Nat}, 0 < N → sn (sv (decide (m * m' < 0)) N) = sn (m * m') := by
      intro N hN; rw [hsg, sn_sg]; congr 1; rw [Bool.eq_iff_iff]; simp [sv_lt hN]
    refine ⟨fun q => ?_, fun q => ?_⟩
    · have hc := normZ hK (w := w) (prec := prec) (n := sv (decide (m * m' < 0)) m.natAbs) (exp := e - e') (s := sn (m * m')) (M := m.natAbs) (b := bl m) (P := prec) (by rw [bl_sv, bl_natAbs]; omega) (fun _ => (nsg (by omega)).symm) (sn01 _) (by rw [sv_abs]) (by rw [bl_sv, bl_natAbs]) (by rw [if_neg (by omega)]) rfl
      have e1 : rz prec w (sv (decide (m * m' < 0)) m.natAbs) (e - e') = quo w prec m e m' e' := by
        unfold rz; rw [if_neg (show ¬ prec = 0 by omega), hsv]; unfold quo; rw [show m'.natAbs = 1 by omega]
      rw [e1] at hc
      exact callI hc (by decide) rfl
    · rw [h4]; refine s_mpf_div_5 fun R5 h5 => ?_
      walk_at "vc"
      refine ⟨fun z => absurd z (by omega), fun _ => ?_⟩
      have body2 : ∀ {x : Nat} {y : Int}, y = x → prec + bl m' + 5 ≤ bl m + x → x ≤ 80000 → q_mpf_div_7 cx [.val (mk m e), .val (mk m' e'), .val (.int prec), .val (.str w.s), .val (.int (sn m)), .val (.int m.natAbs), .val (.int e), .val (.int (bl m)), .val (.int (sn m')), .val (.int m'.natAbs), .val (.int e'), .val (.int (bl m')), .undef, .undef, .val (.int (sn (m * m'))), .val (.int y), .undef, .undef, .undef] [] (callPost (.ok (mkr (quo w prec m e m' e')))) := by
        intro x y hy hx1 hx2
        subst hy
        refine s_mpf_div_7 fun R7 h7 => ?_
        walk_at "vc"
        rw [bl_natAbs, bl_natAbs]
        have hdm := Nat.div_add_mod (m.natAbs * 2 ^ x) m'.natAbs
        have hml := Nat.mod_lt (m.natAbs * 2 ^ x) (show m'.natAbs > 0 by omega)
        have hq1 : (((m.natAbs : Nat) : Int) * 2 ^ ((x : Nat) : Int).toNat).fdiv (m'.natAbs : Nat) = ((m.natAbs * 2 ^ x / m'.natAbs : Nat) : Int) := by
          rw [Int.toNat_natCast, Int.fdiv_eq_ediv_of_nonneg _ (by omega)]; push_cast; rfl
        have hq2 : (((m.natAbs : Nat) : Int) * 2 ^ ((x : Nat) : Int).toNat).fmod (m'.natAbs : Nat) = ((m.natAbs * 2 ^ x % m'.natAbs : Nat) : Int) := by
          rw [Int.toNat_natCast, Int.fmod_eq_emod_of_nonneg _ (by omega)]; push_cast; rfl
        rw [hq1, hq2]
        have hQ : 2 ^ prec ≤ m.natAbs * 2 ^ x / m'.natAbs := (Nat.le_div_iff_mul_le (by omega)).mpr (by
          have c1 := (bl_bounds hm).1
          have c2 := (bl_bounds hm').2
          have c3 := Nat.mul_le_mul_right (2 ^ x) c1
          have c4 := Nat.mul_le_mul_left (2 ^ prec) (Nat.le_of_lt c2)
          rw [← Nat.pow_add] at c3 c4
          have c5 : 2 ^ (prec + bl m') ≤ 2 ^ (bl m - 1 + x) := Nat.pow_le_pow_right (by decide) (by omega)
          omega)
        have hQb : m.natAbs * 2 ^ x / m'.natAbs ≤ m.natAbs * 2 ^ x := Nat.div_le_self _ _
        have hbb := bl_shl (m.natAbs : Nat) x
        rw [bl_natAbs] at hbb
        have hQb2 : bl (m.natAbs * 2 ^ x / m'.natAbs : Nat) ≤ bl m + x := by
          refine Nat.le_trans ?_ hbb
          refine bl_le.mpr ?_
          have := bl_le.mp (Nat.le_refl (bl ((m.natAbs : Nat) * 2 ^ x : Int)))
          have e5 : ((m.natAbs : Int) * 2 ^ x).natAbs = m.natAbs * 2 ^ x := by rw [Int.natAbs_mul, Int.natAbs_pow]; simp
          rw [e5] at this
          simp only [Int.natAbs_natCast]; omega
        obtain ⟨core0, core1⟩ := div_core (w := w) (neg := decide (m * m' < 0)) (p := e - e') hp (show 0 < m'.natAbs by omega) hdm.symm hml hQ
        rw [hsv] at core0 core1
        generalize m.natAbs * 2 ^ x / m'.natAbs = Q at *
        generalize m.natAbs * 2 ^ x % m'.natAbs = r at *
        refine ⟨⟨by omega, by omega⟩, by omega, by omega, ?_⟩
        have fin : ∀ {N : Nat} {z : Int}, 0 < N → bl N ≤ 2 ^ 26 → R w prec (sv (decide (m * m' < 0)) N) 1 (e - e' - z) = quo w prec m e m' e' → q_mpf_div_9 cx [.val (mk m e), .val (mk m' e'), .val (.int prec), .val (.str w.s), .val (.int (sn m)), .val (.int m.natAbs), .val (.int e), .val (.int (bl m)), .val (.int (sn m')), .val (.int m'.natAbs), .val (.int e'), .val (.int (bl m')), .undef, .undef, .val (.int (sn (m * m'))), .val (.int z), .val (.int N), .val (.int r), .undef] [] (callPost (.ok (mkr (quo w prec m e m' e')))) := by
          intro N z hN hbN hR
          refine s_mpf_div_9 fun R9 h9 => ?_
          walk_at "vc"
          rw [h9]; unfold q_mpf_div_10
          walk_at "vc"
          have hc := normZ hK (w := w) (prec := prec) (n := sv (decide (m * m' < 0)) N) (exp := e - e' - z) (s := sn (m * m')) (M := N) (b := bl N) (P := prec) (by rw [bl_sv]; exact hbN) (fun _ => (nsg hN).symm) (sn01 _) (by rw [sv_abs]) (by rw [bl_sv]) (by rw [if_neg (by omega)]) rfl
          have e1 : rz prec w (sv (decide (m * m' < 0)) N) (e - e' - z) = quo w prec m e m' e' := by
            unfold rz; rw [if_neg (show ¬ prec = 0 by omega)]; exact hR
          rw [e1] at hc
          exact ⟨fun _ => callI hc (by decide) rfl, fun z => absurd z (by omega)⟩
        have hQ0 : 0 < Q := by have := two_pos prec; omega
        rw [h7]; refine s_mpf_div_8 fun R8 h8 => ?_
        walk_at "vc"
        refine ⟨fun z => ⟨⟨by decide, by omega⟩, ?_⟩, fun z => ?_⟩
        · rw [h8]
          have e2 : (Q : Int) * 2 ^ Int.toNat 1 + 1 = ((2 * Q + 1 : Nat) : Int) := by rw [show Int.toNat 1 = 1 from rfl]; omega
          rw [e2]
          refine fin (by omega) ?_ (core1 z)
          have := bl_add (2 * Q : Int) 1
          have := bl_mul 2 Q
          have b2 : bl 2 = 2 := by decide
          have e3 : ((2 * Q + 1 : Nat) : Int) = 2 * (Q : Int) + 1 := by push_cast; rfl
          rw [e3]
          rw [bl_one] at *
          omega
        · rw [h8]
          exact fin hQ0 (by omega) (core0 z)
      rw [h5]; refine s_mpf_div_6 fun R6 h6 => ?_
      walk_at "vc"
      rw [h6]
      refine ⟨fun z => body2 (x := 5) rfl (by omega) (by decide), fun z => body2 (x := (prec - bl m + bl m' + 5 : Int).toNat) (by omega) (by omega) (by omega)⟩
  exact ⟨fun q => ⟨fun _ => ⟨fun q2 => er (na q2.2.1), fun q2 => fz (na q) (fun z => zz0 o2 (by rw [z]; rfl) q2)⟩, fun q2 => (zz0 o1 q q2).elim⟩,
    fun q => ⟨fun q' => ⟨fun q2 => absurd q2.2.1 q, fun _ => ⟨fun _ => er (na q'), fun q3 => (zz0 o2 q' q3).elim⟩⟩, fun q' => body (fun z => q (by rw [z]; rfl)) (fun z => q' (by rw [z]; rfl))⟩⟩
end Mine

namespace Mine
open PySem PySem.W PySem.Calls PyProof.Rows PySem.Spec
variable {cx : Cx}
local macro_rules | `(tactic| walk_at "vc") => `(tactic| simp only [tSeq, tSet, tIf, tRet, tSkip, tAug, tAssert, tBin, tTest, tName, tInt, tGlob, tStr, tBool, tNone, tTruth, tNotT, tTrue, tFalse, tAndT, tOrT, tIfE, tNeg, tNot, tOr, tAnd, tNil, tCons, tTup, tList, tSub, tDict, tBl, tB, tCall, tTypeIs, tIsInt, tUnpack, tUnpackR, tBrk, tCont, tRaise,
  slotQ, boolQ, truthQ, intQ, tupQ_tuple, listQ, strQ, subQ_t0, subQ_t1, subQ_l0, subQ_str, kI, kB, kAbs, kInt, kMin, kMax, kDivmod, setAll_cons, setAll_nil, outQ_ok, outQ_err, callPost_rt, callPost_nx, callPost_xx, turnP, kEq_int, kNe_int, kEq_n, kEq_f, kEq_c, kEq_u, kEq_p4, kNe_p4,
  List.getD_cons_zero, List.getD_cons_succ, List.set_cons_zero, List.set_cons_succ, valSlots, List.map_cons, List.map_nil, List.nil_append, List.cons_append, List.append_nil, List.replicate_succ, List.replicate_zero, List.length_cons, List.length_nil,
  true_and, and_true, bne_iff_ne, ne_eq, Bool.not_eq_true', Bool.not_eq_false', decide_eq_true_eq, decide_eq_false_iff_not, beq_iff_eq, beq_eq_false_iff_ne, bne_eq_false_iff_eq, Decidable.not_not, true_implies, Bool.true_eq_false, Bool.false_eq_true, false_implies, implies_true, not_true_eq_false, not_false_eq_true, reduceCtorEq, ok_inj, err_inj, tupQ_mk, subQ_m0, subQ_m1, kEq_mk, sn_z, natAbs_z, natCast_z, kEq_mm, kNe_mm, bl_m1, bl_m2, bl_m3, Bool.and_false, Bool.false_and, Bool.not_false, Bool.not_true, Bool.and_true, Bool.true_and, Bool.and_eq_true, Bool.and_eq_false_iff])
theorem rdiv_ok (hK : KK cx) {w : Way} {prec : Nat} {n m e : Int} (hp : 1 ≤ prec) (hp2 : prec ≤ 2 ^ 16) (h : Odd0 m e) (hz : bl m ≤ 5000) (hn : bl n ≤ 5000) :
    CallOK cx 292 5 [.int n, mk m e, .int prec, .str w.s] (if m = 0 then .error .zde else .ok (mkr (quo w prec n 0 m e))) := by
  have o1 : m = 0 → e = 0 := fun q => by rcases h with h | h <;> omega
  have viaDiv : n = 0 ∨ m = 0 → CallOK cx 284 3 [mk (St n 0).1 (St n 0).2, mk m e, .int prec, .str w.s] (if m = 0 then .error .zde else .ok (mkr (quo w prec n 0 m e))) := by
    intro q
    have hb : bl (St n 0).1 ≤ 5000 := by
      unfold St
      have := (R_can (w := .d) (bits := max 1 (bl n)) (n := n) (d := 1) (p := 0) (by omega) (by decide)).2
      omega
    have := div_ok hK (w := w) (prec := prec) hp hp2 (St_can (n := n) (p := 0)) h hb hz
    by_cases hm : m = 0
    · rw [if_pos hm] at this ⊢; exact this
    · rw [if_neg hm] at this ⊢
      have hn0 : n = 0 := by rcases q with q | q; exact q; exact absurd q hm
      subst hn0
      rw [St_zero] at this ⊢
      exact this
  refine w_mpf_rdiv_int4 hK rfl (s_mpf_rdiv_int fun R0 h0 => ?_)
  walk_at "vc"
  rw [h0]; refine s_mpf_rdiv_int_1 fun R1 h1 => ?_
  generalize hout : (if m = 0 then Except.error Exn.zde else Except.ok (mkr (quo w prec n 0 m e))) = out at *
  walk_at "vc"
  have dz : n = 0 ∨ m = 0 → ∃ out_1 r, CallOK cx 96 r [.int n] out_1 ∧ r < 5 ∧ outQ out_1 (fun d => ∃ out_2 r, CallOK cx 284 r [d, mk m e, .int prec, .str w.s] out_2 ∧ r < 5 ∧ outQ out_2 (callPost out).rt fun x => out = .error x) fun x => out = .error x := by
    intro q
    refine callI (from_int1_ok hK) (by decide) ⟨out, 3, viaDiv q, by decide, ?_⟩
    cases out with
    | ok d => exact rfl
    | error x => exact rfl
  refine ⟨fun q => dz (.inl q), fun q => ⟨fun q2 => dz (.inr (by omega)), fun q2 => ?_⟩⟩
  clear dz viaDiv
  have hm : m ≠ 0 := by omega
  rw [if_neg hm] at hout
  subst hout
  have p1 := bl_pos hm
  have p2 := bl_pos q
  have hmm : n * m ≠ 0 := fun z => by rcases Int.mul_eq_zero.mp z with z | z <;> omega
  have hsv := sv_quo q hm
  have nsg : ∀ {N : Nat}, 0 < N → sn (sv (decide (n * m < 0)) N) = sn (n * m) := by
    intro N hN; rw [sn_sg, sn_sg]; congr 1; rw [Bool.eq_iff_iff]; simp [sv_lt hN]
  rw [h1]; refine s_mpf_rdiv_int_2 fun R2 h2 => ?_
  walk_at "vc"
  have body : ∀ {s N : Int}, s = sn (n * m) → N = n.natAbs → R2 [.val (.int N), .val (mk m e), .val (.int prec), .val (.str w.s), .val (.int s), .val (.int m.natAbs), .val (.int e), .val (.int (bl m)), .undef, .undef, .undef] [] (callPost (.ok (mkr (quo w prec n 0 m e)))) := by
    intro s N hs hN
    subst hs hN
    rw [h2]; refine s_mpf_rdiv_int_3 fun R3 h3 => ?_
    walk_at "vc"
    rw [h3]; refine s_mpf_rdiv_int_4 fun R4 h4 => ?_
    walk_at "vc"
    rw [bl_natAbs, bl_natAbs]
    obtain ⟨x, hx⟩ : ∃ x : Nat, (prec : Int) + bl m + 5 = x := ⟨prec + bl m + 5, by push_cast; rfl⟩
    rw [hx]
    have hdm := Nat.div_add_mod (n.natAbs * 2 ^ x) m.natAbs
    have hml := Nat.mod_lt (n.natAbs * 2 ^ x) (show m.natAbs > 0 by omega)
    have hq1 : (((n.natAbs : Nat) : Int) * 2 ^ ((x : Nat) : Int).toNat).fdiv (m.natAbs : Nat) = ((n.natAbs * 2 ^ x / m.natAbs : Nat) : Int) := by
      rw [Int.toNat_natCast, Int.fdiv_eq_ediv_of_nonneg _ (by omega)]; push_cast; rfl
    have hq2 : (((n.natAbs : Nat) : Int) * 2 ^ ((x : Nat) : Int).toNat).fmod (m.natAbs : Nat) = ((n.natAbs * 2 ^ x % m.natAbs : Nat) : Int) := by
      rw [Int.toNat_natCast, Int.fmod_eq_emod_of_nonneg _ (by omega)]; push_cast; rfl
    rw [hq1, hq2]
    have hQ : 2 ^ prec ≤ n.natAbs * 2 ^ x / m.natAbs := (Nat.le_div_iff_mul_le (by omega)).mpr (by
      have c1 := (bl_bounds q).1
      have c2 := (bl_bounds hm).2
      have c3 := Nat.mul_le_mul_right (2 ^ x) c1
      have c4 := Nat.mul_le_mul_left (2 ^ prec) (Nat.le_of_lt c2)
      rw [← Nat.pow_add] at c3 c4
      have c5 : 2 ^ (prec + bl m) ≤ 2 ^ (bl n - 1 + x) := Nat.pow_le_pow_right (by decide) (by omega)
      omega)
    have hQb : n.natAbs * 2 ^ x / m.natAbs ≤ n.natAbs * 2 ^ x := Nat.div_le_self _ _
    have hbb := bl_shl (n.natAbs : Nat) x
    rw [bl_natAbs] at hbb
    have hQb2 : bl (n.natAbs * 2 ^ x / m.natAbs : Nat) ≤ bl n + x := by
      refine Nat.le_trans ?_ hbb
      refine bl_le.mpr ?_
      have := bl_le.mp (Nat.le_refl (bl ((n.natAbs : Nat) * 2 ^ x : Int)))
      have e5 : ((n.natAbs : Int) * 2 ^ x).natAbs = n.natAbs * 2 ^ x := by rw [Int.natAbs_mul, Int.natAbs_pow]; simp
      rw [e5] at this
      simp only [Int.natAbs_natCast]; omega
    obtain ⟨core0, core1⟩ := div_core (w := w) (neg := decide (n * m < 0)) (p := 0 - e) hp (show 0 < m.natAbs by omega) hdm.symm hml hQ
    rw [hsv] at core0 core1
    generalize n.natAbs * 2 ^ x / m.natAbs = Q at *
    generalize n.natAbs * 2 ^ x % m.natAbs = r at *
    refine ⟨⟨by omega, by omega⟩, by omega, by omega, ?_⟩
    have hQ0 : 0 < Q := by have := two_pos prec; omega
    have fin : ∀ {N : Nat} {z y : Int}, y = 0 - e - z → 0 < N → bl N ≤ 2 ^ 26 → R w prec (sv (decide (n * m < 0)) N) 1 (0 - e - z) = quo w prec n 0 m e →
        CallOK cx 80 2 [.int (sn (n * m)), .int N, .int y, .int (bl N), .int prec, .str w.s] (.ok (mkr (quo w prec n 0 m e))) := by
      intro N z y hy hN hbN hR
      subst hy
      have hc := normZ hK (w := w) (prec := prec) (n := sv (decide (n * m < 0)) N) (exp := 0 - e - z) (s := sn (n * m)) (M := N) (b := bl N) (P := prec) (by rw [bl_sv]; exact hbN) (fun _ => (nsg hN).symm) (sn01 _) (by rw [sv_abs]) (by rw [bl_sv]) (by rw [if_neg (by omega)]) rfl
      have e1 : rz prec w (sv (decide (n * m < 0)) N) (0 - e - z) = quo w prec n 0 m e := by
        unfold rz; rw [if_neg (show ¬ prec = 0 by omega)]; exact hR
      rw [e1] at hc
      exact hc
    rw [h4]; refine s_mpf_rdiv_int_5 fun R5 h5 => ?_
    walk_at "vc"
    refine ⟨fun z => ⟨⟨by decide, by omega⟩, ?_⟩, fun z => ?_⟩
    · have e2 : (Q : Int) * 2 ^ Int.toNat 1 + 1 = ((2 * Q + 1 : Nat) : Int) := by rw [show Int.toNat 1 = 1 from rfl]; omega
      rw [e2]
      have hb3 : bl ((2 * Q + 1 : Nat) : Int) ≤ 2 ^ 26 := by
        have := bl_add (2 * Q : Int) 1
        have := bl_mul 2 Q
        have b2 : bl 2 = 2 := by decide
        have e3 : ((2 * Q + 1 : Nat) : Int) = 2 * (Q : Int) + 1 := by push_cast; rfl
        rw [e3]
        rw [bl_one] at *
        omega
      exact callI (fin (z := x + 1) (by omega) (by omega) hb3 (core1 z)) (by decide) rfl
    · rw [h5]; unfold q_mpf_rdiv_int_6
      walk_at "vc"
      exact callI (fin (z := x) (by omega) hQ0 (by omega) (core0 z)) (by decide) rfl
  have hxs := xor_sn hm q
  rw [Int.mul_comm] at hxs
  have hsn := sn_def n
  refine ⟨fun z => body ?_ (by omega), fun z => body ?_ (by omega)⟩
  · rw [← hxs, show sn n = 1 by omega]
  · rw [← hxs, show sn n = 0 by omega]
    rcases sn01 m with z | z <;> rw [z] <;> decide

theorem fmod_small {a b : Int} (h : (0 ≤ a ∧ a < b) ∨ (a < 0 ∧ b < a)) : a.fmod b = a := by
  rcases h with ⟨h1, h2⟩ | ⟨h1, h2⟩
  · exact Int.fmod_eq_of_lt h1 h2
  · have := Int.neg_fmod_neg (-a) (-b)
    rw [Int.neg_neg, Int.neg_neg] at this
    rw [this, Int.fmod_eq_of_lt (by omega) (by omega), Int.neg_neg]
theorem fmod_unit {a b : Int} (h : b = 1 ∨ b = -1) : a.fmod b = 0 := by
  rcases h with h | h <;> subst h
  · exact Int.fmod_one a
  · have := Int.neg_fmod_neg (-a) 1
    rw [Int.neg_neg] at this
    rw [this, Int.fmod_one]; rfl
/-- the rest, as the law writes it -/
noncomputable def rest (w : Way) (prec : Nat) (m e m' e' : Int) : Int × Int := rz prec w ((m * 2 ^ (e - min e e').toNat).fmod (m' * 2 ^ (e' - min e e').toNat)) (min e e')
theorem mod_ok (hK : KK cx) {w : Way} {prec : Nat} {m e m' e' : Int} (hp : 1 ≤ prec) (h : Odd0 m e) (h' : Odd0 m' e') (hm' : m' ≠ 0) (hb : bl m ≤ prec) (hz : bl m ≤ 2 ^ 16) (hz' : bl m' ≤ 2 ^ 16) (he : -(2 ^ 16) ≤ e ∧ e ≤ 2 ^ 16) (he' : -(2 ^ 16) ≤ e' ∧ e' ≤ 2 ^ 16) :
    CallOK cx 300 3 [mk m e, mk m' e', .int prec, .str w.s] (.ok (mkr (rest w prec m e m' e'))) := by
  have o1 : m = 0 → e = 0 := fun q => by rcases h with h | h <;> omega
  refine w_mpf_mod4 hK rfl (s_mpf_mod fun R0 h0 => ?_)
  walk_at "vc"
  rw [h0]; refine s_mpf_mod_1 fun R1 h1 => ?_
  walk_at "vc"
  rw [h1]; refine s_mpf_mod_2 fun R2 h2 => ?_
  walk_at "vc"
  have body : R2 [.val (mk m e), .val (mk m' e'), .val (.int prec), .val (.str w.s), .val (.int (sn m)), .val (.int m.natAbs), .val (.int e), .val (.int (bl m)), .val (.int (sn m')), .val (.int m'.natAbs), .val (.int e'), .val (.int (bl m')), .undef, .undef, .undef] [] (callPost (.ok (mkr (rest w prec m e m' e')))) := by
    have q1 := sn_def m
    have q2 := sn_def m'
    have main : q_mpf_mod_5 cx [.val (mk m e), .val (mk m' e'), .val (.int prec), .val (.str w.s), .val (.int (sn m)), .val (.int m.natAbs), .val (.int e), .val (.int (bl m)), .val (.int (sn m')), .val (.int m'.natAbs), .val (.int e'), .val (.int (bl m')), .undef, .undef, .undef] [] (callPost (.ok (mkr (rest w prec m e m' e')))) := by
      have b1 : bl (-1) = 1 := by decide
      have hpw : ∀ {x : Int}, ((-1 : Int) ^ (sn x).toNat) * (x.natAbs : Nat) = x := by
        intro x
        have := sn_def x
        rcases sn01 x with z | z <;> rw [z]
        · show (1 : Int) * _ = _; omega
        · show (-1 : Int) * _ = _; omega
      have hpb : ∀ {x : Int}, bl ((-1 : Int) ^ (sn x).toNat) ≤ 2 ^ 20 := by
        intro x
        rcases sn01 x with z | z <;> rw [z] <;> decide
      refine s_mpf_mod_5 fun R5 h5 => ?_
      walk_at "vc"
      have hmin : (if e' < e then e' else e) = min e e' := by split <;> omega
      rw [hmin, h5]; refine s_mpf_mod_6 fun R6 h6 => ?_
      walk_at "vc"
      rw [b1, bl_natAbs, hpw]
      refine ⟨⟨by omega, by omega⟩, ⟨hpb, by omega⟩, ?_⟩
      rw [h6]; refine s_mpf_mod_7 fun R7 h7 => ?_
      walk_at "vc"
      rw [b1, bl_natAbs, hpw]
      refine ⟨⟨by omega, by omega⟩, ⟨hpb, by omega⟩, ?_⟩
      rw [h7]; refine s_mpf_mod_8 fun R8 h8 => ?_
      walk_at "vc"
      have hB : m' * 2 ^ (e' - min e e').toNat ≠ 0 := fun z => by
        rcases Int.mul_eq_zero.mp z with z | z
        · exact hm' z
        · exact absurd z (Int.ne_of_gt (Int.pow_pos (by decide)))
      refine ⟨⟨by omega, by omega⟩, ⟨by omega, by omega⟩, hB, ?_⟩
      have hbB := bl_shl m' (e' - min e e').toNat
      have hbR : bl ((m * 2 ^ (e - min e e').toNat).fmod (m' * 2 ^ (e' - min e e').toNat)) ≤ bl (m' * 2 ^ (e' - min e e').toNat) := intBits_le_of_natAbs (natAbs_fmod_le _ _ hB) (Nat.le_refl _)
      have hrest : rest w prec m e m' e' = rz prec w ((m * 2 ^ (e - min e e').toNat).fmod (m' * 2 ^ (e' - min e e').toNat)) (min e e') := rfl
      rw [hrest]
      generalize (m * 2 ^ (e - min e e').toNat).fmod (m' * 2 ^ (e' - min e e').toNat) = r at *
      have q3 := sn_def r
      rw [h8]; refine s_mpf_mod_9 fun R9 h9 => ?_
      walk_at "vc"
      rw [h9]
      have fin : ∀ {s M : Int}, (r ≠ 0 → s = sn r) → (s = 0 ∨ s = 1) → M = r.natAbs → q_mpf_mod_10 cx [.val (mk m e), .val (mk m' e'), .val (.int prec), .val (.str w.s), .val (.int (sn m)), .val (.int m), .val (.int e), .val (.int (bl m)), .val (.int (sn m')), .val (.int m'), .val (.int e'), .val (.int (bl m')), .val (.int (min e e')), .val (.int M), .val (.int s)] [] (callPost (.ok (mkr (rz prec w r (min e e'))))) := by
        intro s M hs h01 hM
        unfold q_mpf_mod_10
        walk_at "vc"
        subst hM
        rw [bl_natAbs]
        exact callI (normZ hK (w := w) (prec := prec) (n := r) (exp := min e e') (by omega) hs h01 rfl rfl (by rw [if_neg (by omega)]) rfl) (by decide) rfl
      exact ⟨fun z => fin (by omega) (.inl rfl) (by omega), fun z => fin (by omega) (.inr rfl) (by omega)⟩
    rw [h2]; refine s_mpf_mod_3 fun R3 h3 => ?_
    walk_at "vc"
    have after : R3 = q_mpf_mod_4 cx → R3 [.val (mk m e), .val (mk m' e'), .val (.int prec), .val (.str w.s), .val (.int (sn m)), .val (.int m.natAbs), .val (.int e), .val (.int (bl m)), .val (.int (sn m')), .val (.int m'.natAbs), .val (.int e'), .val (.int (bl m')), .undef, .undef, .undef] [] (callPost (.ok (mkr (rest w prec m e m' e')))) := by
      intro h3
      rw [h3]; refine s_mpf_mod_4 fun R4 h4 => ?_
      walk_at "vc"
      rw [h4]
      refine ⟨fun z1 => ⟨fun z2 => ?_, fun z2 => main⟩, fun z1 => main⟩
      have hr : rest w prec m e m' e' = (0, 0) := by
        unfold rest
        rw [Int.min_eq_right (by omega), show (e' - e').toNat = 0 by omega, Int.pow_zero, Int.mul_one, fmod_unit (by omega), rz_zero]
      rw [hr]; exact mk_zero
    refine ⟨fun z1 => ⟨fun z2 => ?_, fun z2 => after h3⟩, fun z1 => after h3⟩
    have hr : rest w prec m e m' e' = (m, e) := by
      unfold rest
      have c1 : m.natAbs < 2 ^ bl m := bl_le.mp (Nat.le_refl _)
      have c2 : 2 ^ bl m ≤ 2 ^ (e' - e).toNat := Nat.pow_le_pow_right (by decide) (by omega)
      have c3 := abs_mul m' (e' - e).toNat
      have c4 : m'.natAbs * 2 ^ (e' - e).toNat ≥ 1 * 2 ^ (e' - e).toNat := Nat.mul_le_mul_right _ (by omega)
      have c5 : ((m'.natAbs * 2 ^ (e' - e).toNat : Nat) : Int) = (m'.natAbs : Nat) * 2 ^ (e' - e).toNat := by push_cast; rfl
      rw [Int.min_eq_left (by omega), show (e - e).toNat = 0 by omega, Int.pow_zero, Int.mul_one, fmod_small (by omega)]
      exact rz_self h (.inr hb)
    rw [hr]
  exact ⟨fun z => ⟨fun z2 => absurd (o1 (by omega)) z2, fun _ => ⟨fun z3 => absurd (show m' = 0 by omega) hm', fun _ => body⟩⟩, fun z => ⟨fun z3 => absurd (show m' = 0 by omega) hm', fun _ => body⟩⟩
end Mine

namespace Mine
open PySem PySem.W PySem.Calls PyProof.Rows PySem.Spec
variable {cx : Cx}
local macro_rules | `(tactic| walk_at "vc") => `(tactic| simp only [tSeq, tSet, tIf, tRet, tSkip, tAug, tAssert, tBin, tTest, tName, tInt, tGlob, tStr, tBool, tNone, tTruth, tNotT, tTrue, tFalse, tAndT, tOrT, tIfE, tNeg, tNot, tOr, tAnd, tNil, tCons, tTup, tList, tSub, tDict, tBl, tB, tCall, tTypeIs, tIsInt, tUnpack, tUnpackR, tBrk, tCont, tRaise,
  slotQ, boolQ, truthQ, intQ, tupQ_tuple, listQ, strQ, subQ_t0, subQ_t1, subQ_l0, subQ_str, kI, kB, kAbs, kInt, kMin, kMax, kDivmod, setAll_cons, setAll_nil, outQ_ok, outQ_err, callPost_rt, callPost_nx, callPost_xx, turnP, kEq_int, kNe_int, kEq_n, kEq_f, kEq_c, kEq_u, kEq_p4, kNe_p4,
  List.getD_cons_zero, List.getD_cons_succ, List.set_cons_zero, List.set_cons_succ, valSlots, List.map_cons, List.map_nil, List.nil_append, List.cons_append, List.append_nil, List.replicate_succ, List.replicate_zero, List.length_cons, List.length_nil,
  true_and, and_true, bne_iff_ne, ne_eq, Bool.not_eq_true', Bool.not_eq_false', decide_eq_true_eq, decide_eq_false_iff_not, beq_iff_eq, beq_eq_false_iff_ne, bne_eq_false_iff_eq, Decidable.not_not, true_implies, Bool.true_eq_false, Bool.false_eq_true, false_implies, implies_true, not_true_eq_false, not_false_eq_true, reduceCtorEq, ok_inj, err_inj, tupQ_mk, subQ_m0, subQ_m1, kEq_mk, sn_z, natAbs_z, natCast_z, kEq_mm, kNe_mm, bl_m1, bl_m2, bl_m3, Bool.and_false, Bool.false_and, Bool.not_false, Bool.not_true, Bool.and_true, Bool.true_and, Bool.and_eq_true, Bool.and_eq_false_iff])
def IsSq (x s : Nat) : Prop := s * s ≤ x ∧ x < (s + 1) * (s + 1)
theorem sq_lt {a b : Nat} (h : a * a < b * b) : a < b := by
  refine Nat.lt_of_not_le fun z => ?_
  have := Nat.mul_le_mul z z
  omega
theorem IsSq.unique {x s t : Nat} (h : IsSq x s) (h' : IsSq x t) : s = t := by
  have h1 : s < t + 1 := sq_lt (Nat.lt_of_le_of_lt h.1 h'.2)
  have h2 : t < s + 1 := sq_lt (Nat.lt_of_le_of_lt h'.1 h.2)
  omega
theorem sq_exists : ∀ x : Nat, ∃ s, IsSq x s
  | 0 => ⟨0, by decide, by decide⟩
  | x + 1 => by
    obtain ⟨s, h1, h2⟩ := sq_exists x
    by_cases h : (s + 1) * (s + 1) = x + 1
    · refine ⟨s + 1, by omega, ?_⟩
      have : (s + 1 + 1) * (s + 1 + 1) = (s + 1) * (s + 1) + 2 * (s + 1) + 1 := by grind
      omega
    · exact ⟨s, by omega, by omega⟩

/-- Newton's step does not fall below the root -/
theorem newton {x s r : Nat} (hs : IsSq x s) (hr : 0 < r) : s ≤ (r + x / r) / 2 := by
  rw [Nat.le_div_iff_mul_le (by decide)]
  by_cases h : s * 2 ≤ r
  · exact Nat.le_trans h (Nat.le_add_right _ _)
  · have h1 : s * 2 - r ≤ x / r := (Nat.le_div_iff_mul_le hr).mpr (by
      refine Nat.le_trans ?_ hs.1
      obtain ⟨d, hd⟩ : ∃ d, s * 2 = r + d := ⟨s * 2 - r, by omega⟩
      rw [hd, Nat.add_sub_cancel_left]
      rcases Nat.le_total s r with z | z
      · obtain ⟨c, hc⟩ := Nat.exists_eq_add_of_le z
        have : d + c = s := by omega
        subst hc; rw [← this]; grind
      · obtain ⟨c, hc⟩ := Nat.exists_eq_add_of_le z
        have : d = r + 2 * c := by omega
        rw [hc, this]; grind)
    omega
theorem isqrt_small_ok (hK : KK cx) {x s : Nat} (hs : IsSq x s) (hz : bl (x : Int) ≤ 8000) : CallOK cx 28 0 [.int x] (.ok (.int s)) := by
  refine w_isqrt_small hK rfl (s_isqrt_small fun R0 h0 => ?_)
  walk_at "vc"
  refine ⟨fun q => ?_, fun q => ?_⟩
  · have : s = 0 := hs.unique ⟨by omega, by omega⟩
    rw [this, q]
  rw [h0]; refine s_isqrt_small_1 fun R1 h1 => ?_
  walk_at "vc"
  have hx0 : 0 < x := by omega
  obtain ⟨c1, c2⟩ := bl_nat hx0
  have e1 : ((bl (x : Int) : Nat) : Int) + 1 = ((bl (x : Int) + 1 : Nat) : Int) := by omega
  rw [e1, show Int.toNat 1 = 1 from rfl, fdiv_nat, bl_one]
  refine ⟨by decide, ⟨by omega, by omega⟩, ?_⟩
  rw [Int.one_mul, Int.toNat_natCast, pow_i ((bl (x : Int) + 1) / 2 ^ 1)]
  have hinit : s ≤ 2 ^ ((bl (x : Int) + 1) / 2 ^ 1) := by
    have : s * s < 2 ^ ((bl (x : Int) + 1) / 2 ^ 1) * 2 ^ ((bl (x : Int) + 1) / 2 ^ 1) := by
      rw [← Nat.pow_add]
      have : 2 ^ bl (x : Int) ≤ 2 ^ ((bl (x : Int) + 1) / 2 ^ 1 + (bl (x : Int) + 1) / 2 ^ 1) := Nat.pow_le_pow_right (by decide) (by omega)
      have := hs.1
      omega
    exact Nat.le_of_lt (sq_lt this)
  have hbig : bl ((2 ^ ((bl (x : Int) + 1) / 2 ^ 1) : Nat) : Int) ≤ 9000 := by
    have := bl_pow ((bl (x : Int) + 1) / 2 ^ 1)
    rw [pow_i] at this
    omega
  have hs1 : 1 ≤ s := by
    rcases Nat.eq_zero_or_pos s with z | z
    · subst z; have := hs.2; omega
    · exact z
  generalize 2 ^ ((bl (x : Int) + 1) / 2 ^ 1) = r at *
  rw [h1]; unfold q_isqrt_small_2 tSeq
  refine tWhile_intro (fun n ρ σ => σ = [] ∧ ∃ y, ρ = [.val (.int x), .val (.int ((n : Nat) : Int)), y] ∧ s ≤ n ∧ bl (n : Int) ≤ 9000) r ⟨rfl, _, rfl, hinit, hbig⟩ ?_
  rintro n ρ σ ⟨rfl, y, rfl, hn, hnb⟩
  walk_at "vc"
  refine ⟨fun _ => ?_, fun z => absurd z (by decide)⟩
  have hn0 : 0 < n := by omega
  have e2 : ((n : Int) + (x : Int).fdiv n).fdiv (2 ^ Int.toNat 1) = (((n + x / n) / 2 : Nat) : Int) := by
    have : (x : Int).fdiv n = ((x / n : Nat) : Int) := by rw [Int.fdiv_eq_ediv_of_nonneg _ (by omega)]; norm_cast
    rw [this, show Int.toNat 1 = 1 from rfl, show (n : Int) + ((x / n : Nat) : Int) = ((n + x / n : Nat) : Int) by push_cast; rfl, fdiv_nat]
  rw [e2]
  refine ⟨⟨by omega, by omega⟩, by decide, fun z => ?_, fun z => ?_⟩
  · have hle : n ≤ x / n := by omega
    have h3 := (Nat.le_div_iff_mul_le hn0).mp hle
    have h4 : n < s + 1 := sq_lt (Nat.lt_of_le_of_lt h3 hs.2)
    have : n = s := by omega
    rw [this]
  · refine ⟨(n + x / n) / 2, by omega, _, rfl, newton hs hn0, ?_⟩
    refine bl_le.mpr (Nat.lt_of_le_of_lt ?_ (bl_le.mp hnb))
    simp only [Int.natAbs_natCast]; omega
theorem sqrtrem_ok (hK : KK cx) {x s : Nat} (hs : IsSq x s) (hz : bl (x : Int) ≤ 8000) : CallOK cx 35 1 [.int x] (.ok (.tuple [.int s, .int ((x : Int) - s * s)])) := by
  refine w_sqrtrem hK rfl (s_sqrtrem fun R0 h0 => ?_)
  walk_at "vc"
  refine callI (isqrt_small_ok hK hs hz) (by decide) ?_
  rw [h0]; unfold q_sqrtrem_1
  walk_at "vc"
  have hb : bl (s : Int) ≤ 8000 := by
    refine Nat.le_trans (bl_le.mpr (Nat.lt_of_le_of_lt ?_ (bl_le.mp (Nat.le_refl (bl (x : Int)))))) hz
    simp only [Int.natAbs_natCast]
    rcases Nat.eq_zero_or_pos s with z | z
    · omega
    · have := Nat.le_mul_of_pos_left s z
      have := hs.1
      omega
  exact ⟨⟨by omega, by omega⟩, by simp⟩
theorem isqrt_ok (hK : KK cx) {x s : Nat} (hs : IsSq x s) (hz : bl (x : Int) ≤ 8000) : CallOK cx 42 2 [.int x] (.ok (.int s)) := by
  refine w_isqrt hK rfl ?_
  unfold q_isqrt
  walk_at "vc"
  refine callI (sqrtrem_ok hK hs hz) (by decide) ?_
  walk_at "vc"

/-! the root at any scale -/
abbrev odd1 (A L : Nat) : Nat := if L * L = A then 0 else 1
theorem root_indep {w : Way} {prec A1 L1 L2 δ : Nat} {p : Int} (hp : 1 ≤ prec) (h1 : IsSq A1 L1) (h2 : IsSq (A1 * (2 ^ δ * 2 ^ δ)) L2) (hL : 2 ^ prec ≤ L1) :
    R w prec ((2 * L2 + odd1 (A1 * (2 ^ δ * 2 ^ δ)) L2 : Nat) : Int) 1 (p - δ) = R w prec ((2 * L1 + odd1 A1 L1 : Nat) : Int) 1 p := by
  have hD := two_pos δ
  by_cases he : L1 * L1 = A1
  · have hL2 : L2 = L1 * 2 ^ δ := by
      refine h2.unique ⟨?_, ?_⟩
      · rw [← he]; exact Nat.le_of_eq (by grind)
      · have : (L1 * 2 ^ δ + 1) * (L1 * 2 ^ δ + 1) = L1 * L1 * (2 ^ δ * 2 ^ δ) + 2 * (L1 * 2 ^ δ) + 1 := by grind
        rw [← he]; omega
    have e2 : L2 * L2 = A1 * (2 ^ δ * 2 ^ δ) := by rw [hL2, ← he]; grind
    rw [odd1, if_pos e2, odd1, if_pos he, hL2]
    refine R_congr (i := 0) (i' := δ) hp (by decide) (by decide) ?_ (by omega)
    push_cast; simp; grind
  · have g1 : L1 * 2 ^ δ ≤ L2 := by
      refine Nat.le_of_lt_succ (sq_lt (Nat.lt_of_le_of_lt ?_ h2.2))
      have := Nat.mul_le_mul_right (2 ^ δ * 2 ^ δ) h1.1
      have e : L1 * 2 ^ δ * (L1 * 2 ^ δ) = L1 * L1 * (2 ^ δ * 2 ^ δ) := by grind
      omega
    have g2 : L2 < (L1 + 1) * 2 ^ δ := by
      refine sq_lt (Nat.lt_of_le_of_lt h2.1 ?_)
      have := Nat.mul_lt_mul_of_pos_right h1.2 (Nat.mul_pos hD hD)
      have e : (L1 + 1) * 2 ^ δ * ((L1 + 1) * 2 ^ δ) = (L1 + 1) * (L1 + 1) * (2 ^ δ * 2 ^ δ) := by grind
      omega
    have g3 : L2 = L1 * 2 ^ δ → odd1 (A1 * (2 ^ δ * 2 ^ δ)) L2 = 1 := by
      intro z
      unfold odd1; rw [if_neg]
      intro z2
      have e : L2 * L2 = L1 * L1 * (2 ^ δ * 2 ^ δ) := by rw [z]; grind
      rw [e] at z2
      exact he (Nat.eq_of_mul_eq_mul_right (Nat.mul_pos hD hD) z2)
    have g4 : odd1 (A1 * (2 ^ δ * 2 ^ δ)) L2 ≤ 1 := by unfold odd1; split <;> decide
    rw [show odd1 A1 L1 = 1 from if_neg he]
    generalize odd1 (A1 * (2 ^ δ * 2 ^ δ)) L2 = b at *
    have c1 : R w prec ((2 * L2 + b : Nat) : Int) 1 (p - δ) = R w prec ((2 * L2 + b : Nat) : Int) (2 ^ (δ + 1)) (p + 1) := by
      refine R_congr (i := 0) (i' := δ + 1) hp (by decide) (two_pos _) ?_ (by omega)
      push_cast; simp
    have c2 : R w prec ((2 * L1 + 1 : Nat) : Int) 1 p = R w prec ((2 * L1 + 1 : Nat) : Int) 2 (p + 1) := by
      refine R_congr (i := 0) (i' := 1) hp (by decide) (by decide) ?_ (by omega)
      simp
    rw [c1, c2]
    have := R_between (w := w) (neg := false) (p := p + 1) (a := 2 * L2 + b) (d := 2 ^ (δ + 1)) (a' := 2 * L1 + 1) (d' := 2) (N := L1) hp
      (by rw [Nat.pow_succ]; have e : L1 * (2 ^ δ * 2) = 2 * (L1 * 2 ^ δ) := by grind
          omega)
      (by rw [Nat.pow_succ]; have e : (L1 + 1) * (2 ^ δ * 2) = 2 * ((L1 + 1) * 2 ^ δ) := by grind
          omega) (by omega) (by omega) hL
    exact this
/-- where nothing is ever rounded up, the odd half says nothing -/
theorem R_trunc {w : Way} {prec L b : Nat} {p : Int} (hw : w.isF = true ∨ w = .d) (hp : 1 ≤ prec) (hL : 2 ^ prec ≤ L) (hb : b ≤ 1) : R w prec ((2 * L + b : Nat) : Int) 1 (p - 1) = R w prec (L : Int) 1 p := by
  have hL0 : 0 < L := by have := two_pos prec; omega
  obtain ⟨m, e, hr⟩ := RD_exists (w := w) (neg := false) (p := p) (d := 1) hp hL0 (by decide)
  have h1 := R_of_RD (neg := false) hp (by decide) hL0 hr
  rw [show sv false L = (L : Int) from rfl] at h1
  have hup : ∀ q c, up w false q c = false := by
    intro q c
    rcases hw with hw | hw
    · cases w <;> simp [Way.isF] at hw; simp [up]
    · subst hw; rfl
  obtain ⟨j, q, c, k, ⟨u, v, r, hj, g1, g2, g3⟩, q1, q2, q3, q4, q5⟩ := hr
  rw [hup] at q4
  have hj0 : 0 ≤ j := by
    refine Int.not_lt.mp fun z => ?_
    have hvu : v + 1 ≤ u := by omega
    have e1 : 2 ^ (v + 1) ≤ 2 ^ u := Nat.pow_le_pow_right (by decide) hvu
    rw [Nat.pow_succ] at e1
    have e2 := Nat.mul_le_mul hL e1
    have e3 := Nat.mul_le_mul_left (2 ^ v) (show q + 1 ≤ 2 ^ prec from q2)
    have e4 : 2 ^ prec * (2 ^ v * 2) = 2 * (2 ^ v * 2 ^ prec) := by grind
    have e5 : 2 ^ v * (q + 1) = 2 ^ v * q + 2 ^ v := by grind
    have := two_pos v
    have := Nat.mul_pos this (two_pos prec)
    rw [Nat.one_mul] at *
    omega
  obtain ⟨i, hi⟩ : ∃ i, v = u + i := ⟨v - u, by omega⟩
  have g5 : ∃ r0, L = 2 ^ i * q + r0 ∧ r = r0 * 2 ^ u := by
    have hle : 2 ^ i * q ≤ L := by
      refine Nat.le_of_mul_le_mul_right ?_ (two_pos u)
      have e : 1 * 2 ^ v * q = 2 ^ i * q * 2 ^ u := by rw [hi, Nat.pow_add]; grind
      omega
    obtain ⟨r0, h0⟩ := Nat.exists_eq_add_of_le hle
    refine ⟨r0, h0, ?_⟩
    have e : 1 * 2 ^ v * q = 2 ^ i * q * 2 ^ u := by rw [hi, Nat.pow_add]; grind
    rw [h0, Nat.add_mul] at g1
    omega
  obtain ⟨r0, g6, g7⟩ := g5
  have g8 : r0 < 2 ^ i := by
    refine Nat.lt_of_mul_lt_mul_right (a := 2 ^ u) ?_
    rw [← g7, ← Nat.pow_add, Nat.add_comm i u, ← hi]; omega
  have hr2 : RD w false prec (2 * L + b) 1 (p - 1) m e := by
    refine ⟨j + 1, q, _, k, ⟨0, i + 1, 2 * r0 + b, by omega, ?_, ?_, rfl⟩, q1, q2, q3, by rw [hup]; exact q4, by omega⟩
    · rw [g6, Nat.pow_succ]; grind
    · rw [Nat.pow_succ]; omega
  have h2 := R_of_RD (neg := false) hp (by decide) (by omega) hr2
  rw [show sv false (2 * L + b) = ((2 * L + b : Nat) : Int) from rfl] at h2
  rw [h1, h2]

/-- the root's rounding, at the law's own scale -/
def lawK (prec : Nat) (m e : Int) : Nat := let k := (2 * prec + 6) - bl m; if (e - k) % 2 = 0 then k else k + 1
noncomputable def sqN (x : Nat) : Nat := Classical.choose (sq_exists x)
theorem sqN_spec (x : Nat) : IsSq x (sqN x) := Classical.choose_spec (sq_exists x)
noncomputable def rootAt (w : Way) (prec : Nat) (m e : Int) (k : Nat) : Int × Int := R w prec ((2 * sqN (m.natAbs * 2 ^ k) + odd1 (m.natAbs * 2 ^ k) (sqN (m.natAbs * 2 ^ k)) : Nat) : Int) 1 ((e - k) / 2 - 1)
theorem sqN_big {prec A : Nat} (h : 2 ^ (2 * prec) ≤ A) : 2 ^ prec ≤ sqN A := by
  refine Nat.le_of_lt_succ (sq_lt (Nat.lt_of_le_of_lt ?_ (sqN_spec A).2))
  rw [← Nat.pow_add]
  refine Nat.le_trans (Nat.le_of_eq ?_) h
  congr 1; omega
theorem rootAt_eq {w : Way} {prec : Nat} {m e : Int} {k₁ k₂ : Nat} (hp : 1 ≤ prec) (hm : m ≠ 0) (h1 : 2 * prec + 1 ≤ bl m + k₁) (h2 : 2 * prec + 1 ≤ bl m + k₂) (p1 : (e - k₁) % 2 = 0) (p2 : (e - k₂) % 2 = 0) : rootAt w prec m e k₁ = rootAt w prec m e k₂ := by
  have main : ∀ {k₁ k₂ : Nat}, k₁ ≤ k₂ → 2 * prec + 1 ≤ bl m + k₁ → (e - k₁) % 2 = 0 → (e - k₂) % 2 = 0 → rootAt w prec m e k₁ = rootAt w prec m e k₂ := by
    intro k₁ k₂ hk h1 p1 p2
    obtain ⟨δ, hδ⟩ : ∃ δ : Nat, k₂ = k₁ + 2 * δ := ⟨(k₂ - k₁) / 2, by omega⟩
    have hA : m.natAbs * 2 ^ k₂ = m.natAbs * 2 ^ k₁ * (2 ^ δ * 2 ^ δ) := by rw [hδ, show k₁ + 2 * δ = k₁ + (δ + δ) by omega, Nat.pow_add, Nat.pow_add]; grind
    have hbig : 2 ^ (2 * prec) ≤ m.natAbs * 2 ^ k₁ := by
      have c1 := Nat.mul_le_mul_right (2 ^ k₁) (bl_bounds hm).1
      rw [← Nat.pow_add] at c1
      have p := bl_pos hm
      exact Nat.le_trans (Nat.pow_le_pow_right (by decide) (by omega)) c1
    have hs2 := sqN_spec (m.natAbs * 2 ^ k₂)
    unfold rootAt
    have hr := root_indep (w := w) (p := (e - k₁) / 2 - 1) hp (sqN_spec (m.natAbs * 2 ^ k₁)) (hA ▸ hs2) (sqN_big hbig)
    rw [← hA] at hr
    rw [← hr]
    congr 1; omega
  rcases Nat.le_total k₁ k₂ with z | z
  · exact main z h1 p1 p2
  · exact (main z h2 p2 p1).symm
noncomputable def root (w : Way) (prec : Nat) (m e : Int) : Int × Int := if m = 0 then (0, 0) else rootAt w prec m e (lawK prec m e)
theorem lawK_par (prec : Nat) (m e : Int) : (e - lawK prec m e) % 2 = 0 ∧ 2 * prec + 6 ≤ bl m + lawK prec m e ∧ lawK prec m e ≤ 2 * prec + 7 := by
  unfold lawK; dsimp only; split <;> omega

def Way.isD : Way → Bool
  | .d => true
  | _ => false
theorem in_fd' (w : Way) : (!(Builtin.Str.occurrences (Str.ofString "fd") w.s 0 (Str.ofString "fd").length 1).isEmpty) = (w.isF || w.isD) := by cases w <;> kernel_rfl
theorem in_fd (w : Way) {Q : PyData → Prop} : kInStr (.str w.s) (.str (Str.ofString "fd")) Q = Q (.bool (w.isF || w.isD)) := by
  show Q (.bool _) = Q (.bool _)
  rw [in_fd']
theorem sqrt_ok (hK : KK cx) {w : Way} {prec : Nat} {m e : Int} (hp : 1 ≤ prec) (hp2 : prec ≤ 1000) (h : Odd0 m e) (hz : bl m ≤ 1000) :
    CallOK cx 317 4 [mk m e, .int prec, .str w.s] (if m < 0 then .error .cplx else .ok (mkr (root w prec m e))) := by
  have o1 : m = 0 → e = 0 := fun q => by rcases h with h | h <;> omega
  refine w_mpf_sqrt3 hK rfl (s_mpf_sqrt fun R0 h0 => ?_)
  walk_at "vc"
  rw [h0]; refine s_mpf_sqrt_1 fun R1 h1 => ?_
  walk_at "vc"
  refine ⟨fun q => by rw [if_pos (by omega)], fun q => ?_⟩
  rw [if_neg (by omega), h1]; refine s_mpf_sqrt_2 fun R2 h2 => ?_
  walk_at "vc"
  refine ⟨fun z => ?_, fun z => ?_⟩
  · have hm : m = 0 := by omega
    have := o1 hm
    subst hm; subst this
    rw [root, if_pos rfl]
  have hm : m ≠ 0 := by omega
  have p1 := bl_pos hm
  have hsn : sn m = 0 := by unfold sn; rw [if_neg (by omega)]
  have hodd : m % 2 = 1 := by rcases h with h | h <;> omega
  -- the body, from the shift on
  have body : ∀ {k0 : Nat} {M E b : Int}, k0 ≤ 1 → M = ((m.natAbs * 2 ^ k0 : Nat) : Int) → E = e - k0 → E % 2 = 0 → b = bl m + k0 → q_mpf_sqrt_4 cx [.val (mk m e), .val (.int prec), .val (.str w.s), .val (.int (sn m)), .val (.int M), .val (.int E), .val (.int b), .undef, .undef] [] (callPost (.ok (mkr (root w prec m e)))) := by
    intro k0 M E b hk0 hM hE hE2 hb
    refine s_mpf_sqrt_4 fun R4 h4 => ?_
    walk_at "vc"
    have b2 : bl 2 = 2 := by decide
    have b3 : bl (prec : Int) ≤ 10 := bl_le.mpr (by omega)
    refine ⟨⟨by rw [b2]; decide, by omega⟩, ?_⟩
    obtain ⟨sh, hsh⟩ : ∃ sh : Nat, (if 2 * (prec : Int) - b + 4 > 4 then 2 * (prec : Int) - b + 4 else 4) = sh := ⟨(if 2 * (prec : Int) - b + 4 > 4 then 2 * (prec : Int) - b + 4 else 4).toNat, by split <;> omega⟩
    have hsh1 : 2 * (prec : Int) + 4 ≤ b + sh ∧ sh ≤ 2 * prec + 4 := by split at hsh <;> omega
    rw [hsh, h4]; refine s_mpf_sqrt_5 fun R5 h5 => ?_
    walk_at "vc"
    rw [bitAnd_m1]
    obtain ⟨k, hk⟩ : ∃ k : Nat, ((sh : Nat) : Int) + (sh : Int) % 2 = k := ⟨sh + sh % 2, by push_cast; rfl⟩
    have hk1 : k % 2 = 0 ∧ sh ≤ k ∧ k ≤ sh + 1 := by omega
    rw [hk, h5]; refine s_mpf_sqrt_6 fun R6 h6 => ?_
    have hroot : root w prec m e = rootAt w prec m e (k0 + k) := by
      rw [root, if_neg hm]
      obtain ⟨l1, l2, l3⟩ := lawK_par prec m e
      exact rootAt_eq hp hm (by omega) (by omega) l1 (by omega)
    have hA : ((M : Int) * 2 ^ ((k : Nat) : Int).toNat) = ((m.natAbs * 2 ^ (k0 + k) : Nat) : Int) := by
      rw [hM, Int.toNat_natCast, Nat.pow_add]; push_cast; grind
    have hbA : bl ((m.natAbs * 2 ^ (k0 + k) : Nat) : Int) ≤ 8000 := by
      have := bl_mul_pow (m := m.natAbs) (by omega) (k0 + k)
      rw [bl_natAbs] at this; omega
    have hbM : bl M ≤ 1001 := by
      have := bl_mul_pow (m := m.natAbs) (by omega) k0
      rw [bl_natAbs, ← hM] at this; omega
    have hbig : 2 ^ (2 * prec) ≤ m.natAbs * 2 ^ (k0 + k) := by
      have c1 := Nat.mul_le_mul_right (2 ^ (k0 + k)) (bl_bounds hm).1
      rw [← Nat.pow_add] at c1
      exact Nat.le_trans (Nat.pow_le_pow_right (by decide) (by omega)) c1
    have hs := sqN_spec (m.natAbs * 2 ^ (k0 + k))
    have hLb := sqN_big hbig
    have hbl : bl (sqN (m.natAbs * 2 ^ (k0 + k)) : Int) ≤ 8000 := by
      refine Nat.le_trans (bl_le.mpr (Nat.lt_of_le_of_lt ?_ (bl_le.mp (Nat.le_refl (bl ((m.natAbs * 2 ^ (k0 + k) : Nat) : Int)))))) hbA
      simp only [Int.natAbs_natCast]
      rcases Nat.eq_zero_or_pos (sqN (m.natAbs * 2 ^ (k0 + k))) with z | z
      · omega
      · have := Nat.le_mul_of_pos_left (sqN (m.natAbs * 2 ^ (k0 + k))) z
        have := hs.1
        omega
    have hpar : (e - ((k0 + k : Nat) : Int)) / 2 = (E - k) / 2 := by omega
    rw [hroot]
    unfold rootAt
    rw [hpar]
    generalize m.natAbs * 2 ^ (k0 + k) = A at *
    generalize sqN A = L at *
    have last : ∀ {N : Nat} {z : Int} {x8 : Slot}, bl N ≤ 2 ^ 26 → (R w prec N 1 ((E - z) / 2) = R w prec ((2 * L + odd1 A L : Nat) : Int) 1 ((E - k) / 2 - 1)) → q_mpf_sqrt_7 cx [.val (mk m e), .val (.int prec), .val (.str w.s), .val (.int (sn m)), .val (.int N), .val (.int E), .val (.int b), .val (.int z), x8] [] (callPost (.ok (mkr (R w prec ((2 * L + odd1 A L : Nat) : Int) 1 ((E - k) / 2 - 1))))) := by
      intro N z x8 hN hR
      unfold q_mpf_sqrt_7
      walk_at "vc"
      have e2 : (E - z).fdiv 2 = (E - z) / 2 := Int.fdiv_eq_ediv_of_nonneg _ (by decide)
      rw [e2]
      refine ⟨⟨by decide, by rw [b2]; decide⟩, ?_⟩
      have hc := fme_ok hK (w := w) (prec := prec) (n := N) (exp := (E - z) / 2) hp hN
      rw [hR] at hc
      exact callI hc (by decide) rfl
    unfold tSeq tIf tTest tBin tName tStr slotQ
    refine (in_fd w).mpr ?_
    refine ⟨fun z => ?_, fun z => ?_⟩
    · walk_at "vc"
      rw [hA]
      refine ⟨⟨by omega, by omega⟩, ?_⟩
      refine callI (isqrt_ok hK hs hbA) (by decide) ?_
      rw [h6]
      refine last (by omega) (R_trunc ?_ hp hLb ?_).symm
      · cases w <;> simp [Way.isF, Way.isD] at z ⊢
      · unfold odd1; split <;> decide
    · walk_at "vc"
      rw [hA]
      refine ⟨⟨by omega, by omega⟩, ?_⟩
      refine callI (sqrtrem_ok hK hs hbA) (by decide) ?_
      walk_at "vc"
      have hs1 := hs.1
      have ez : ((A : Int) - (L : Int) * L = 0) ↔ L * L = A := by
        have : ((L * L : Nat) : Int) = (L : Int) * L := by push_cast; rfl
        omega
      refine ⟨fun z2 => ⟨⟨by decide, by omega⟩, ?_⟩, fun z2 => ?_⟩
      · rw [h6]
        have e2 : (L : Int) * 2 ^ Int.toNat 1 + 1 = ((2 * L + 1 : Nat) : Int) := by rw [show Int.toNat 1 = 1 from rfl]; omega
        rw [e2]
        have hb3 : bl ((2 * L + 1 : Nat) : Int) ≤ 2 ^ 26 := by
          have := bl_add (2 * L : Int) 1
          have := bl_mul 2 L
          have e3 : ((2 * L + 1 : Nat) : Int) = 2 * (L : Int) + 1 := by push_cast; rfl
          rw [e3]
          rw [bl_one] at *
          omega
        refine last hb3 ?_
        rw [show odd1 A L = 1 from if_neg (fun z3 => z2 (ez.mpr z3)), show (E - ((k : Int) + 2)) / 2 = (E - k) / 2 - 1 by omega]
      · rw [h6]
        refine last (by omega) ?_
        rw [show odd1 A L = 0 from if_pos (ez.mp z2)]
        refine R_congr (i := 1) (i' := 0) hp (by decide) (by decide) ?_ (by omega)
        push_cast; simp; omega
  rw [h2]; refine s_mpf_sqrt_3 fun R3 h3 => ?_
  walk_at "vc"
  rw [bitAnd_m1, h3]
  have b2 : bl 2 = 2 := by decide
  refine ⟨fun z1 => ⟨⟨by decide, by rw [bl_natAbs]; omega⟩, ?_⟩, fun z1 => ⟨fun z2 => ⟨⟨by decide, by rw [b2]; decide⟩, ?_⟩, fun z2 => ?_⟩⟩
  · exact body (k0 := 1) (by decide) (by rw [show Int.toNat 1 = 1 from rfl]; push_cast; rfl) (by omega) (by omega) (by omega)
  · have hm1 : m = 1 := by omega
    subst hm1
    have e2 : e.fdiv 2 = e / 2 := Int.fdiv_eq_ediv_of_nonneg _ (by decide)
    rw [e2]
    have hc := normZ hK (w := w) (prec := prec) (n := 1) (exp := e / 2) (s := sn 1) (M := ((1 : Int).natAbs : Nat)) (b := bl 1) (P := prec) (by decide) (fun _ => rfl) (sn01 _) rfl rfl (by rw [if_neg (by omega)]) rfl
    have hr : rz prec w 1 (e / 2) = root w prec 1 e := by
      unfold rz root
      rw [if_neg (show ¬ prec = 0 by omega), if_neg (by decide)]
      obtain ⟨l1, l2, l3⟩ := lawK_par prec 1 e
      generalize lawK prec 1 e = k at *
      obtain ⟨δ, hδ⟩ : ∃ δ, k = δ + δ := ⟨k / 2, by omega⟩
      have hA : (1 : Int).natAbs * 2 ^ k = 2 ^ δ * 2 ^ δ := by rw [hδ, Nat.pow_add]; simp
      have hL : sqN ((1 : Int).natAbs * 2 ^ k) = 2 ^ δ := by
        refine (sqN_spec _).unique ⟨by rw [hA]; omega, ?_⟩
        have e3 : (2 ^ δ + 1) * (2 ^ δ + 1) = 2 ^ δ * 2 ^ δ + 2 * 2 ^ δ + 1 := by grind
        rw [hA]; omega
      unfold rootAt
      rw [hL, show odd1 ((1 : Int).natAbs * 2 ^ k) (2 ^ δ) = 0 from if_pos hA.symm]
      refine R_congr (i := δ + 1) (i' := 0) hp (by decide) (by decide) ?_ (by omega)
      rw [Int.pow_succ]; push_cast; simp; grind
    rw [hr] at hc
    exact callI hc (by decide) rfl
  · exact body (k0 := 0) (by decide) (by simp) (by omega) (by omega) (by omega)
end Mine

namespace Mine
open PySem PySem.W PySem.Calls PyProof.Rows PySem.Spec
variable {cx : Cx}
local macro_rules | `(tactic| walk_at "vc") => `(tactic| simp only [tSeq, tSet, tIf, tRet, tSkip, tAug, tAssert, tBin, tTest, tName, tInt, tGlob, tStr, tBool, tNone, tTruth, tNotT, tTrue, tFalse, tAndT, tOrT, tIfE, tNeg, tNot, tOr, tAnd, tNil, tCons, tTup, tList, tSub, tDict, tBl, tB, tCall, tTypeIs, tIsInt, tUnpack, tUnpackR, tBrk, tCont, tRaise,
  slotQ, boolQ, truthQ, intQ, tupQ_tuple, listQ, strQ, subQ_t0, subQ_t1, subQ_l0, subQ_str, kI, kB, kAbs, kInt, kMin, kMax, kDivmod, setAll_cons, setAll_nil, outQ_ok, outQ_err, callPost_rt, callPost_nx, callPost_xx, turnP, kEq_int, kNe_int, kEq_n, kEq_f, kEq_c, kEq_u, kEq_p4, kNe_p4,
  List.getD_cons_zero, List.getD_cons_succ, List.set_cons_zero, List.set_cons_succ, valSlots, List.map_cons, List.map_nil, List.nil_append, List.cons_append, List.append_nil, List.replicate_succ, List.replicate_zero, List.length_cons, List.length_nil,
  true_and, and_true, bne_iff_ne, ne_eq, Bool.not_eq_true', Bool.not_eq_false', decide_eq_true_eq, decide_eq_false_iff_not, beq_iff_eq, beq_eq_false_iff_ne, bne_eq_false_iff_eq, Decidable.not_not, true_implies, Bool.true_eq_false, Bool.false_eq_true, false_implies, implies_true, not_true_eq_false, not_false_eq_true, reduceCtorEq, ok_inj, err_inj, tupQ_mk, subQ_m0, subQ_m1, kEq_mk, sn_z, natAbs_z, natCast_z, kEq_mm, kNe_mm, bl_m1, bl_m2, bl_m3, Bool.and_false, Bool.false_and, Bool.not_false, Bool.not_true, Bool.and_true, Bool.true_and, Bool.and_eq_true, Bool.and_eq_false_iff])
theorem l_plus_ok (hK : KK cx) {m e m' e' : Int} (hz : bl m ≤ 2 ^ 20) (hz' : bl m' ≤ 2 ^ 20) (he : -(2 ^ 20) ≤ e ∧ e ≤ 2 ^ 20) (he' : -(2 ^ 20) ≤ e' ∧ e' ≤ 2 ^ 20) :
    CallOK cx 338 0 [p2 m e, p2 m' e'] (.ok (p2 (sumN m e m' e') (min e e'))) := by
  refine w_l_plus hK rfl (s_l_plus fun R0 h0 => ?_)
  walk_at "vc"
  have hmin : (if e' < e then e' else e) = min e e' := by split <;> omega
  rw [hmin, h0]; unfold q_l_plus_1
  walk_at "vc"
  exact ⟨⟨by omega, by omega⟩, ⟨by omega, by omega⟩, by simp, rfl⟩
theorem l_whole_ok (hK : KK cx) {m e : Int} {kind : Int} (hk : kind = 11 ∨ kind = 12 ∨ kind = 13) (hz : bl m ≤ 2 ^ 16) (he : -8000 ≤ e ∧ e ≤ 2 ^ 16) :
    CallOK cx 345 0 [p2 m e, .int kind] (.ok (.int (if kind = 12 then whole .c m e else if kind = 13 then whole .n m e else whole .f m e))) := by
  refine w_l_whole hK rfl (s_l_whole fun R0 h0 => ?_)
  walk_at "vc"
  rw [h0]; refine s_l_whole_1 fun R1 h1 => ?_
  walk_at "vc"
  refine ⟨fun q => ⟨⟨q, by omega⟩, congrArg PyData.int ?_⟩, fun q => ?_⟩
  · unfold whole
    rw [if_pos q, if_pos q, if_pos q]; split <;> (try split) <;> rfl
  have hw : ∀ w, whole w m e = m.fdiv (2 ^ (-e).toNat) + (match w with
      | .c => if 2 * (m - m.fdiv (2 ^ (-e).toNat) * 2 ^ (-e).toNat) = 0 then 0 else 1
      | .n => if 2 ^ (-e).toNat < 2 * (m - m.fdiv (2 ^ (-e).toNat) * 2 ^ (-e).toNat) ∨ (2 * (m - m.fdiv (2 ^ (-e).toNat) * 2 ^ (-e).toNat) = 2 ^ (-e).toNat ∧ (m.fdiv (2 ^ (-e).toNat)).fmod 2 = 1) then 1 else 0
      | _ => 0) := fun w => by unfold whole; rw [if_neg q]; try (cases w <;> rfl)
  rw [h1]; refine s_l_whole_2 fun R2 h2 => ?_
  walk_at "vc"
  rw [bl_one]
  refine ⟨⟨by omega, by omega⟩, ?_⟩
  have hp : (0 : Int) < 2 ^ (-e).toNat := Int.pow_pos (by decide)
  have hpb : bl ((2 : Int) ^ (-e).toNat) ≤ 2 ^ 17 := by rw [bl_pow]; omega
  rw [Int.one_mul, h2]; refine s_l_whole_3 fun R3 h3 => ?_
  walk_at "vc"
  have hpn : ¬ (2 : Int) ^ (-e).toNat = 0 := by omega
  rw [bl_pow]
  refine ⟨⟨hpn, ?_⟩, ?_⟩
  · omega
  rw [h3]; refine s_l_whole_4 fun R4 h4 => ?_
  walk_at "vc"
  have z1 : bl (m.fdiv (2 ^ (-e).toNat)) ≤ bl m := intBits_fdiv_le (Nat.le_refl _)
  have z2 := bl_mul (m.fdiv (2 ^ (-e).toNat)) (2 ^ (-e).toNat)
  have z3 : bl (m - m.fdiv (2 ^ (-e).toNat) * 2 ^ (-e).toNat) ≤ max (bl m) (bl (m.fdiv (2 ^ (-e).toNat) * 2 ^ (-e).toNat)) + 1 := intBits_sub_le (Nat.le_refl _) (Nat.le_refl _)
  have b2 : bl 2 = 2 := by decide
  refine ⟨⟨by omega, by omega⟩, ⟨by rw [b2]; decide, by omega⟩, ?_⟩
  clear z1 z2 z3 hpb
  rw [hw .c, hw .n, hw .f]
  dsimp only
  generalize m.fdiv (2 ^ (-e).toNat) = dn at *
  generalize (2 : Int) ^ (-e).toNat = on at *
  rw [h4]; refine s_l_whole_5 fun R5 h5 => ?_
  walk_at "vc"
  refine ⟨fun k1 => ⟨fun z => ?_, fun z => ?_⟩, fun k1 => ?_⟩
  · rw [if_pos k1, if_neg z]
  · rw [if_pos k1, if_pos z]
  rw [if_neg k1, h5]; refine s_l_whole_6 fun R6 h6 => ?_
  walk_at "vc"
  refine ⟨fun k2 => ?_, fun k2 => ?_⟩
  · rw [if_pos k2]
    refine ⟨fun z => ?_, fun z => ⟨fun z2 => ⟨by decide, fun z3 => ?_, fun z3 => ?_⟩, fun z2 => ?_⟩⟩
    · rw [if_pos (.inl z)]
    · rw [if_pos (.inr ⟨z2, z3⟩)]
    · rw [if_neg (by rintro (q | ⟨_, q⟩); exact z q; exact z3 q)]
    · rw [if_neg (by rintro (q | ⟨q, _⟩); exact z q; exact z2 q)]
  · rw [if_neg k2, h6]; unfold q_l_whole_7
    walk_at "vc"
    rw [Int.add_zero]
theorem l_round_ok (hK : KK cx) {w : Way} {num : Int} {den bits : Nat} {power : Int} (hb : 1 ≤ bits) (hb2 : bits ≤ 1000) (hd : 0 < den) (hz : bl num ≤ 8000) (hzd : bl (den : Int) ≤ 8000) :
    CallOK cx 324 0 [.int num, .int den, .int power, .int bits, .str w.s] (.ok (p2 (R w bits num den power).1 (R w bits num den power).2)) := by
  refine w_l_round hK rfl (s_l_round fun R0 h0 => ?_)
  walk_at "vc"
  refine ⟨fun q => by rw [q, R_zero hb hd]; exact ⟨by simp, rfl⟩, fun q => ?_⟩
  rw [h0]; refine s_l_round_1 fun R1 h1 => ?_
  walk_at "vc"
  have habs : (if num < 0 then -num else num) = (num.natAbs : Nat) := by split <;> omega
  rw [habs, h1]; refine s_l_round_2 fun R2 h2 => ?_
  walk_at "vc"
  rw [bl_natAbs, h2]; refine s_l_round_3 fun R3 h3 => ?_
  walk_at "vc"
  have body : ∀ {u v Q r : Nat} {K : Int}, (v : Int) - u = -K → num.natAbs * 2 ^ u = den * 2 ^ v * Q + r → r < den * 2 ^ v → 2 ^ bits ≤ Q → bl (Q : Int) ≤ 20000 →
      q_l_round_4 cx [.val (.int num), .val (.int den), .val (.int power), .val (.int bits), .val (.str w.s), .val (.int num.natAbs), .val (.int K), .val (.int Q), .val (.int r), .undef, .undef, .undef, .undef] [] (callPost (.ok (p2 (R w bits num den power).1 (R w bits num den power).2))) := by
    intro u v Q r K hK1 hQ1 hr hQ2 hQ3
    have hQ0 : 0 < Q := by have := two_pos bits; omega
    obtain ⟨c1, c2⟩ := bl_nat hQ0
    obtain ⟨x, hx⟩ : ∃ x, bl (Q : Int) = bits + (x + 1) := by
      have : bits < bl (Q : Int) := bl_lt.mpr (by simpa using hQ2)
      exact ⟨bl (Q : Int) - bits - 1, by omega⟩
    have hQ4 : 2 ^ (bits + (x + 1)) ≤ 2 * Q := by
      rw [hx] at c1
      have e : bits + (x + 1) = (bits + (x + 1) - 1) + 1 := by omega
      rw [e, Nat.pow_succ]; omega
    rw [hx] at c2
    refine s_l_round_4 fun R4 h4 => ?_
    walk_at "vc"
    have e1 : ((bl (Q : Int) : Nat) : Int) - bits = ((x + 1 : Nat) : Int) := by omega
    rw [e1, h4]; refine s_l_round_5 fun R5 h5 => ?_
    walk_at "vc"
    rw [bl_one, Int.one_mul, Int.toNat_natCast]
    refine ⟨⟨by omega, by omega⟩, Int.ne_of_gt (Int.pow_pos (by decide)), ?_⟩
    have e2 : ((Q : Int)).fmod (2 ^ (x + 1)) = ((Q % 2 ^ (x + 1) : Nat) : Int) := by rw [Int.fmod_eq_emod_of_nonneg _ (Int.le_of_lt (Int.pow_pos (by decide)))]; norm_cast
    rw [e2, h5]; refine s_l_round_6 fun R6 h6 => ?_
    walk_at "vc"
    have e3 : ((x + 1 : Nat) : Int) - 1 = ((x : Nat) : Int) := by omega
    rw [bl_one, e3, Int.one_mul, Int.toNat_natCast]
    refine ⟨⟨by omega, by omega⟩, ?_⟩
    rw [h6]; refine s_l_round_7 fun R7 h7 => ?_
    walk_at "vc"
    rw [Int.toNat_natCast, fdiv_nat]
    refine ⟨by omega, ?_⟩
    rw [pow_i x]
    have hcl := cls_split (l := Q % 2 ^ (x + 1)) (D := den * 2 ^ v) (r := r) (x := x) hr
    have mk2 := fun {m k : Nat} (hm : m % 2 = 1) hk => RD_make (w := w) (neg := decide (num < 0)) (bits := bits) (p := power) (x := x + 1) (m := m) (k := k) hQ1 hr hb hQ4 c2 hm hk
    have hqp : 0 < Q / 2 ^ (x + 1) := Nat.div_pos (by
      have : 2 ^ (x + 1) ≤ 2 ^ (bits + (x + 1) - 1) := Nat.pow_le_pow_right (by decide) (by omega)
      have e : 2 ^ (bits + (x + 1)) = 2 * 2 ^ (bits + (x + 1) - 1) := by conv => lhs; rw [show bits + (x + 1) = (bits + (x + 1) - 1) + 1 by omega, Nat.pow_succ]
                                                                         omega
      omega) (two_pos _)
    have hqb : bl ((Q / 2 ^ (x + 1) : Nat) : Int) ≤ 20000 := by
      refine Nat.le_trans (bl_le.mpr (Nat.lt_of_le_of_lt ?_ (bl_le.mp (Nat.le_refl (bl (Q : Int)))))) hQ3
      simp only [Int.natAbs_natCast]; exact Nat.div_le_self _ _
    have hH := two_pos x
    generalize Q / 2 ^ (x + 1) = q0 at *
    generalize Q % 2 ^ (x + 1) = low at *
    generalize 2 ^ x = H at *
    rw [hcl] at mk2
    -- from the rounded one on
    have last : ∀ {N : Nat} {x12 : Slot}, N = q0 + (up w (decide (num < 0)) q0 (if low = 0 ∧ r = 0 then 0 else if low < H then 1 else if low = H ∧ r = 0 then 2 else 3)).toNat →
        q_l_round_9 cx [.val (.int num), .val (.int den), .val (.int power), .val (.int bits), .val (.str w.s), .val (.int num.natAbs), .val (.int K), .val (.int N), .val (.int r), .val (.int ((x + 1 : Nat) : Int)), .val (.int low), .val (.int H), x12] [] (callPost (.ok (p2 (R w bits num den power).1 (R w bits num den power).2))) := by
      intro N x12 hN
      rw [← hN] at mk2
      have hN0 : 0 < N := by omega
      have b2 : bl 2 = 2 := by decide
      refine s_l_round_9 fun R9 h9 => ?_
      unfold tSeq
      refine tWhile_intro (fun n ρ σ => σ = [] ∧ ∃ i : Nat, ρ = [.val (.int num), .val (.int den), .val (.int power), .val (.int bits), .val (.str w.s), .val (.int num.natAbs), .val (.int K), .val (.int ((n : Nat) : Int)), .val (.int r), .val (.int (((x + 1 : Nat) : Int) + i)), .val (.int low), .val (.int H), x12] ∧ N = n * 2 ^ i) N ⟨rfl, 0, by simp, by simp⟩ ?_
      rintro n ρ σ ⟨rfl, i, rfl, hni⟩
      have hn0 : 0 < n := by
        rcases Nat.eq_zero_or_pos n with z | z
        · subst z; rw [Nat.zero_mul] at hni; omega
        · exact z
      walk_at "vc"
      have hfm : ((n : Int).fmod 2 = 0) = (n % 2 = 0) := by
        rw [Int.fmod_eq_emod_of_nonneg _ (by decide)]; exact propext (by omega)
      rw [hfm]
      refine ⟨by decide, fun z => ⟨⟨by decide, by rw [b2]; decide⟩, n / 2, by omega, i + 1, ?_, ?_⟩, fun z => ?_⟩
      · have : (n : Int).fdiv 2 = ((n / 2 : Nat) : Int) := by rw [Int.fdiv_eq_ediv_of_nonneg _ (by decide)]; norm_cast
        rw [this]
        have e5 : ((x + 1 : Nat) : Int) + (i : Int) + 1 = ((x + 1 : Nat) : Int) + ((i + 1 : Nat) : Int) := by omega
        rw [e5]
      · obtain ⟨y, hy⟩ : ∃ y, n = 2 * y := ⟨n / 2, by omega⟩
        rw [hni, hy, Nat.mul_div_cancel_left _ (by decide), Nat.pow_succ]; grind
      · rw [h9]; unfold q_l_round_10
        walk_at "vc"
        have hrd := mk2 (m := n) (k := i) (by omega) hni
        have hR := R_of_RD hb hd (by omega) hrd
        rw [sv_natAbs] at hR
        rw [hR]
        have e6 : power + ((v : Int) - u + ((x + 1 : Nat) : Int)) + i = power - K + (((x + 1 : Nat) : Int) + i) := by omega
        rw [e6]
        refine ⟨fun z2 => ⟨by simp, ?_⟩, fun z2 => ⟨by simp, ?_⟩⟩
        · rw [decide_eq_false (by omega)]; rfl
        · rw [decide_eq_true (by omega)]; rfl
    rw [h7]; refine s_l_round_8 fun R8 h8 => ?_
    walk_at "vc"
    rw [h8]
    obtain ⟨c, hc⟩ : ∃ c, c = if low = 0 ∧ r = 0 then 0 else if low < H then 1 else if low = H ∧ r = 0 then 2 else 3 := ⟨_, rfl⟩
    rw [← hc] at last
    have k0 : c = 0 ↔ low = 0 ∧ r = 0 := by subst hc; split <;> (try split) <;> (try split) <;> omega
    have k2 : c = 2 ↔ low = H ∧ r = 0 := by subst hc; split <;> (try split) <;> (try split) <;> omega
    have k3 : c = 3 ↔ H < low ∨ (low = H ∧ 0 < r) := by subst hc; split <;> (try split) <;> (try split) <;> omega
    have g1 : up w (decide (num < 0)) q0 c = true → ∀ x12, q_l_round_9 cx [.val (.int num), .val (.int den), .val (.int power), .val (.int bits), .val (.str w.s), .val (.int num.natAbs), .val (.int K), .val (.int ((q0 : Int) + 1)), .val (.int r), .val (.int ((x + 1 : Nat) : Int)), .val (.int low), .val (.int H), x12] [] (callPost (.ok (p2 (R w bits num den power).1 (R w bits num den power).2))) := by
      intro h x12
      have := last (N := q0 + 1) (x12 := x12) (by rw [h]; rfl)
      push_cast at this ⊢; exact this
    have g0 : up w (decide (num < 0)) q0 c = false → ∀ x12, q_l_round_9 cx [.val (.int num), .val (.int den), .val (.int power), .val (.int bits), .val (.str w.s), .val (.int num.natAbs), .val (.int K), .val (.int q0), .val (.int r), .val (.int ((x + 1 : Nat) : Int)), .val (.int low), .val (.int H), x12] [] (callPost (.ok (p2 (R w bits num den power).1 (R w bits num den power).2))) := by
      intro h x12
      exact last (N := q0) (x12 := x12) (by rw [h]; rfl)
    have hfm : ((q0 : Int).fmod 2 = 1) = (q0 % 2 = 1) := by
      rw [Int.fmod_eq_emod_of_nonneg _ (by decide)]; exact propext (by omega)
    have qx : ¬ num = 0 := q
    clear last hc hcl mk2 h8 h7 h6 h5 h4 h2 h1 h0 hQ1 hr hQ2 hQ3 hQ4 c1 c2 hqb hK1 e1 e2 e3 habs hx
    cases w <;> simp only [Way.isN, Way.isU, Way.isF, Way.isC, up, decide_eq_true_eq, decide_eq_false_iff_not, Bool.and_eq_true, Bool.and_eq_false_iff, Bool.not_eq_true', Bool.not_eq_false', Bool.true_eq_false, Bool.false_eq_true, false_implies, true_implies, true_and, and_true, hfm, ne_eq, implies_true, not_false_eq_true, not_true_eq_false] at g1 g0 ⊢
    all_goals repeat' (first | apply And.intro | intro _)
    all_goals first
      | exact g1 (by omega) _
      | exact g0 (by omega) _
      | exact g0 _
      | omega
  rw [bl_natAbs]
  have hd0 : 0 < bl (den : Int) := bl_pos (by omega)
  have hn0 : 0 < bl num := bl_pos q
  obtain ⟨n1, n2⟩ := bl_bounds q
  obtain ⟨d1, d2⟩ := bl_nat hd
  rw [h3]
  refine ⟨fun z => ?_, fun z => ?_⟩
  · obtain ⟨k, hk⟩ : ∃ k : Nat, (bits : Int) + bl (den : Int) - bl num + 1 = k := ⟨((bits : Int) + bl (den : Int) - bl num + 1).toNat, by omega⟩
    rw [hk, Int.toNat_natCast]
    have hdm := Nat.div_add_mod (num.natAbs * 2 ^ k) den
    have hml := Nat.mod_lt (num.natAbs * 2 ^ k) hd
    have q1 : ((num.natAbs : Int) * 2 ^ k).fdiv den = ((num.natAbs * 2 ^ k / den : Nat) : Int) := by rw [Int.fdiv_eq_ediv_of_nonneg _ (by omega)]; push_cast; rfl
    have q2 : ((num.natAbs : Int) * 2 ^ k).fmod den = ((num.natAbs * 2 ^ k % den : Nat) : Int) := by rw [Int.fmod_eq_emod_of_nonneg _ (by omega)]; push_cast; rfl
    rw [q1, q2]
    refine ⟨⟨by omega, by omega⟩, by omega, by omega, ?_⟩
    refine body (u := k) (v := 0) (by omega) (by rw [Nat.pow_zero, Nat.mul_one, hdm]) (by rw [Nat.pow_zero, Nat.mul_one]; exact hml) ?_ ?_
    · refine (Nat.le_div_iff_mul_le hd).mpr ?_
      have c1 := Nat.mul_le_mul_right (2 ^ k) n1
      have c2 := Nat.mul_le_mul_left (2 ^ bits) (Nat.le_of_lt d2)
      rw [← Nat.pow_add] at c1 c2
      have : 2 ^ (bits + bl (den : Int)) ≤ 2 ^ (bl num - 1 + k) := Nat.pow_le_pow_right (by decide) (by omega)
      omega
    · have h1 := bl_shl (num.natAbs : Nat) k
      rw [bl_natAbs] at h1
      refine Nat.le_trans (bl_le.mpr (Nat.lt_of_le_of_lt ?_ (bl_le.mp (Nat.le_refl (bl ((num.natAbs : Nat) * 2 ^ k : Int)))))) (by omega)
      simp only [Int.natAbs_natCast]
      have e5 : ((num.natAbs : Int) * 2 ^ k).natAbs = num.natAbs * 2 ^ k := by rw [Int.natAbs_mul, Int.natAbs_pow]; simp
      rw [e5]; exact Nat.div_le_self _ _
  · obtain ⟨k, hk⟩ : ∃ k : Nat, -((bits : Int) + bl (den : Int) - bl num + 1) = k := ⟨(-((bits : Int) + bl (den : Int) - bl num + 1)).toNat, by omega⟩
    have hk2 : (bits : Int) + bl (den : Int) - bl num + 1 = -(k : Int) := by omega
    rw [hk, hk2, Int.toNat_natCast]
    have hD : 0 < den * 2 ^ k := Nat.mul_pos hd (two_pos k)
    have hDc : (den : Int) * 2 ^ k = ((den * 2 ^ k : Nat) : Int) := by push_cast; rfl
    have hdm := Nat.div_add_mod num.natAbs (den * 2 ^ k)
    have hml := Nat.mod_lt num.natAbs hD
    have hbD := bl_shl (den : Int) k
    have q1 : (num.natAbs : Int).fdiv ((den * 2 ^ k : Nat) : Int) = ((num.natAbs / (den * 2 ^ k) : Nat) : Int) := by rw [Int.fdiv_eq_ediv_of_nonneg _ (by omega)]; push_cast; rfl
    have q2 : (num.natAbs : Int).fmod ((den * 2 ^ k : Nat) : Int) = ((num.natAbs % (den * 2 ^ k) : Nat) : Int) := by rw [Int.fmod_eq_emod_of_nonneg _ (by omega)]; push_cast; rfl
    rw [hDc] at hbD
    rw [hDc, q1, q2]
    refine ⟨⟨by omega, by omega⟩, by omega, by omega, ?_⟩
    refine body (u := 0) (v := k) (by omega) (by rw [Nat.pow_zero, Nat.mul_one, hdm]) hml ?_ ?_
    · refine (Nat.le_div_iff_mul_le hD).mpr ?_
      have c2 := Nat.mul_le_mul_left (2 ^ bits) (Nat.mul_le_mul_right (2 ^ k) (Nat.le_of_lt d2))
      rw [← Nat.pow_add, ← Nat.pow_add] at c2
      have : 2 ^ (bits + (bl (den : Int) + k)) ≤ 2 ^ (bl num - 1) := Nat.pow_le_pow_right (by decide) (by omega)
      omega
    · refine Nat.le_trans (bl_le.mpr (Nat.lt_of_le_of_lt ?_ (bl_le.mp (Nat.le_refl (bl num))))) (by omega)
      simp only [Int.natAbs_natCast]; exact Nat.div_le_self _ _
end Mine

namespace Mine
open PySem PySem.W PySem.Calls PyProof.Rows PySem.Spec
variable {cx : Cx}
local macro_rules | `(tactic| walk_at "vc") => `(tactic| simp only [tSeq, tSet, tIf, tRet, tSkip, tAug, tAssert, tBin, tTest, tName, tInt, tGlob, tStr, tBool, tNone, tTruth, tNotT, tTrue, tFalse, tAndT, tOrT, tIfE, tNeg, tNot, tOr, tAnd, tNil, tCons, tTup, tList, tSub, tDict, tBl, tB, tCall, tTypeIs, tIsInt, tUnpack, tUnpackR, tBrk, tCont, tRaise,
  slotQ, boolQ, truthQ, intQ, tupQ_tuple, listQ, strQ, subQ_t0, subQ_t1, subQ_l0, subQ_str, kI, kB, kAbs, kInt, kMin, kMax, kDivmod, setAll_cons, setAll_nil, outQ_ok, outQ_err, callPost_rt, callPost_nx, callPost_xx, turnP, kEq_int, kNe_int, kEq_n, kEq_f, kEq_c, kEq_u, kEq_p4, kNe_p4,
  List.getD_cons_zero, List.getD_cons_succ, List.set_cons_zero, List.set_cons_succ, valSlots, List.map_cons, List.map_nil, List.nil_append, List.cons_append, List.append_nil, List.replicate_succ, List.replicate_zero, List.length_cons, List.length_nil,
  true_and, and_true, bne_iff_ne, ne_eq, Bool.not_eq_true', Bool.not_eq_false', decide_eq_true_eq, decide_eq_false_iff_not, beq_iff_eq, beq_eq_false_iff_ne, bne_eq_false_iff_eq, Decidable.not_not, true_implies, Bool.true_eq_false, Bool.false_eq_true, false_implies, implies_true, not_true_eq_false, not_false_eq_true, reduceCtorEq, ok_inj, err_inj, tupQ_mk, subQ_m0, subQ_m1, kEq_mk, sn_z, natAbs_z, natCast_z, kEq_mm, kNe_mm, bl_m1, bl_m2, bl_m3, Bool.and_false, Bool.false_and, Bool.not_false, Bool.not_true, Bool.and_true, Bool.true_and, Bool.and_eq_true, Bool.and_eq_false_iff])
theorem l_root_ok (hK : KK cx) {w : Way} {m e : Int} {bits : Nat} (hb : 1 ≤ bits) (hb2 : bits ≤ 1000) (h : Odd0 m e) (hm : 0 ≤ m) (hz : bl m ≤ 1000) (he : -(2 ^ 16) ≤ e ∧ e ≤ 2 ^ 16) :
    CallOK cx 331 1 [.int m, .int e, .int bits, .str w.s] (.ok (p2 (root w bits m e).1 (root w bits m e).2)) := by
  obtain ⟨M, rfl⟩ : ∃ M : Nat, m = M := ⟨m.toNat, by omega⟩
  have b2 : bl 2 = 2 := by decide
  have b3 : bl (bits : Int) ≤ 10 := bl_le.mpr (by omega)
  refine w_l_root hK rfl (s_l_root fun R0 h0 => ?_)
  walk_at "vc"
  refine ⟨⟨by rw [b2]; decide, by omega⟩, ?_⟩
  obtain ⟨k0, hk0⟩ : ∃ k0 : Nat, k0 = (2 * bits + 6) - bl (M : Int) := ⟨_, rfl⟩
  have e0 : (if 2 * (bits : Int) + 6 - bl (M : Int) > 0 then 2 * (bits : Int) + 6 - bl (M : Int) else 0) = (k0 : Int) := by split <;> omega
  rw [e0, h0]; refine s_l_root_1 fun R1 h1 => ?_
  walk_at "vc"
  have hfm : ((e - (k0 : Int)).fmod 2 = 0) = ((e - (k0 : Int)) % 2 = 0) := by rw [Int.fmod_eq_emod_of_nonneg _ (by decide)]
  rw [hfm]
  have hlk : lawK bits (M : Int) e = if (e - (k0 : Int)) % 2 = 0 then k0 else k0 + 1 := by unfold lawK; dsimp only; rw [← hk0]
  have body : ∀ {k : Nat} {y : Int}, y = k → k = lawK bits (M : Int) e → R1 [.val (.int M), .val (.int e), .val (.int bits), .val (.str w.s), .val (.int y), .undef, .undef, .undef, .undef] [] (callPost (.ok (p2 (root w bits M e).1 (root w bits M e).2))) := by
    intro k y hy hk
    subst hy
    have hkk := lawK_par bits (M : Int) e
    rw [← hk] at hkk
    rw [h1]; refine s_l_root_2 fun R2 h2 => ?_
    walk_at "vc"
    refine ⟨⟨by omega, by omega⟩, ?_⟩
    have eA : (M : Int) * 2 ^ ((k : Nat) : Int).toNat = ((M * 2 ^ k : Nat) : Int) := by rw [Int.toNat_natCast]; push_cast; rfl
    have hAb : bl ((M * 2 ^ k : Nat) : Int) ≤ 5000 := by
      have := bl_shl (M : Int) k
      have e : ((M * 2 ^ k : Nat) : Int) = (M : Int) * 2 ^ k := by push_cast; rfl
      rw [e]; omega
    rw [eA]
    have hroot : ∀ L, IsSq (M * 2 ^ k) L → R w bits ((2 * L + odd1 (M * 2 ^ k) L : Nat) : Int) 1 ((e - k) / 2 - 1) = root w bits M e := by
      intro L hL
      unfold root
      by_cases hM : (M : Int) = 0
      · have : M = 0 := by omega
        subst this
        have hL0 : L = 0 := hL.unique (t := 0) ⟨by omega, by omega⟩
        rw [if_pos (show ((0 : Nat) : Int) = 0 from rfl), hL0]
        have : odd1 (0 * 2 ^ k) 0 = 0 := if_pos (by omega)
        rw [this]
        exact R_zero hb (by decide)
      · rw [if_neg hM, ← hk]
        unfold rootAt
        rw [Int.natAbs_natCast, (sqN_spec (M * 2 ^ k)).unique hL]
    generalize M * 2 ^ k = A at *
    rw [h2]; refine s_l_root_3 fun R3 h3 => ?_
    walk_at "vc"
    have eh : ((bl (A : Int) : Nat) : Int).fdiv 2 + 1 = ((bl (A : Int) / 2 + 1 : Nat) : Int) := by
      have : ((bl (A : Int) : Nat) : Int).fdiv 2 = ((bl (A : Int) / 2 : Nat) : Int) := by rw [Int.fdiv_eq_ediv_of_nonneg _ (by decide)]; norm_cast
      rw [this]; push_cast; rfl
    rw [eh, bl_one, Int.one_mul, Int.toNat_natCast]
    have hbA2 : A < 2 ^ bl (A : Int) := by simpa using bl_le.mp (Nat.le_refl (bl (A : Int)))
    refine ⟨⟨by decide, by rw [b2]; decide⟩, ⟨by omega, by omega⟩, by simp, ?_⟩
    simp only [List.reverse_cons, List.reverse_nil, List.nil_append, List.cons_append, setAll_cons, setAll_nil, List.set_cons_succ, List.set_cons_zero]
    rw [pow_i (bl (A : Int) / 2 + 1)]
    have hhi : A < 2 ^ (bl (A : Int) / 2 + 1) * 2 ^ (bl (A : Int) / 2 + 1) := by
      rw [← Nat.pow_add]
      exact Nat.lt_of_lt_of_le hbA2 (Nat.pow_le_pow_right (by decide) (by omega))
    have hhb : bl ((2 ^ (bl (A : Int) / 2 + 1) : Nat) : Int) ≤ 5000 := by
      have := bl_pow (bl (A : Int) / 2 + 1)
      rw [pow_i] at this; omega
    generalize 2 ^ (bl (A : Int) / 2 + 1) = top at *
    rw [h3]; refine s_l_root_4 fun R4 h4 => ?_
    unfold tSeq
    refine tWhile_intro (fun n ρ σ => σ = [] ∧ ∃ (lo hi : Nat) (x8 : Slot), ρ = [.val (.int M), .val (.int e), .val (.int bits), .val (.str w.s), .val (.int (k : Int)), .val (.int A), .val (.int lo), .val (.int hi), x8] ∧ n = hi - lo ∧ lo * lo ≤ A ∧ A < hi * hi ∧ hi ≤ top) top ⟨rfl, 0, top, _, rfl, by omega, by omega, hhi, Nat.le_refl _⟩ ?_
    rintro n ρ σ ⟨rfl, lo, hi, x8, rfl, rfl, g1, g2, g3⟩
    have glt : lo < hi := sq_lt (Nat.lt_of_le_of_lt g1 g2)
    have nb : ∀ {y : Nat}, y ≤ top → bl (y : Int) ≤ 5000 := by
      intro y hy
      refine Nat.le_trans (bl_le.mpr (Nat.lt_of_le_of_lt ?_ (bl_le.mp (Nat.le_refl (bl (top : Int)))))) hhb
      simpa using hy
    walk_at "vc"
    refine ⟨fun z => ?_, fun z => ?_⟩
    · have em : ((lo : Int) + hi).fdiv 2 = (((lo + hi) / 2 : Nat) : Int) := by
        rw [Int.fdiv_eq_ediv_of_nonneg _ (by decide)]; push_cast; rfl
      rw [em]
      have eq2 : ((((lo + hi) / 2 : Nat) : Int) * (((lo + hi) / 2 : Nat) : Int)) = (((lo + hi) / 2 * ((lo + hi) / 2) : Nat) : Int) := by push_cast; rfl
      have hm1 := nb (y := (lo + hi) / 2) (by omega)
      rw [eq2]
      generalize hmid : (lo + hi) / 2 = mid at *
      refine ⟨⟨by decide, by rw [b2]; decide⟩, ⟨by omega, by omega⟩, fun z2 => ?_, fun z2 => ?_⟩
      · exact ⟨hi - mid, by omega, mid, hi, _, rfl, rfl, by omega, g2, g3⟩
      · exact ⟨mid - lo, by omega, lo, mid, _, rfl, rfl, g1, by omega, by omega⟩
    · have hhi1 : hi = lo + 1 := by omega
      have hL : IsSq A lo := ⟨g1, by rw [← hhi1]; exact g2⟩
      have hr := hroot lo hL
      rw [h4]; unfold q_l_root_5
      walk_at "vc"
      have hlb := nb (y := lo) (by omega)
      have eq2 : ((lo : Int) * lo) = ((lo * lo : Nat) : Int) := by push_cast; rfl
      have efd : (e - (k : Int)).fdiv 2 = (e - k) / 2 := Int.fdiv_eq_ediv_of_nonneg _ (by decide)
      have hbn : ∀ {N : Nat}, N ≤ 2 * lo + 1 → bl (N : Int) ≤ 8000 := by
        intro N hN
        have h1 := bl_add (2 * lo : Int) 1
        have h2 := bl_mul 2 lo
        rw [bl_one] at h1
        refine Nat.le_trans (bl_le.mpr (Nat.lt_of_le_of_lt ?_ (bl_le.mp (Nat.le_refl (bl (2 * (lo : Int) + 1)))))) (by omega)
        simp only [Int.natAbs_natCast]; omega
      have fin : ∀ {N : Int}, N = ((2 * lo + odd1 A lo : Nat) : Int) → ∃ out r, CallOK cx 324 r [.int N, .int 1, .int ((e - (k : Int)).fdiv 2 - 1), .int bits, .str w.s] out ∧ r < 1 ∧ outQ out (callPost (.ok (p2 (root w bits M e).1 (root w bits M e).2))).rt fun x => False := by
        intro N hN
        subst hN
        rw [efd]
        have hc := l_round_ok hK (w := w) (num := ((2 * lo + odd1 A lo : Nat) : Int)) (den := 1) (bits := bits) (power := (e - k) / 2 - 1) hb hb2 (by decide) (hbn (by unfold odd1; split <;> omega)) (by decide)
        rw [hr] at hc
        exact callI hc (by decide) rfl
      refine ⟨⟨by rw [b2]; decide, by omega⟩, ⟨by omega, by omega⟩, fun z2 => ⟨⟨by decide, by rw [b2]; decide⟩, fin ?_⟩, fun z2 => ⟨⟨by decide, by rw [b2]; decide⟩, fin ?_⟩⟩
      · rw [show odd1 A lo = 0 from if_pos (by omega)]; push_cast; omega
      · rw [show odd1 A lo = 1 from if_neg (by omega)]; push_cast; rfl
  exact ⟨by decide, fun z => body (k := k0 + 1) (by push_cast; rfl) (by rw [hlk, if_neg z]), fun z => body (k := k0) rfl (by rw [hlk, if_pos z])⟩
end Mine

namespace Mine
open PySem PySem.W PySem.Calls PyProof.Rows PySem.Spec
variable {cx : Cx}
local macro_rules | `(tactic| walk_at "vc") => `(tactic| simp only [tSeq, tSet, tIf, tRet, tSkip, tAug, tAssert, tBin, tTest, tName, tInt, tGlob, tStr, tBool, tNone, tTruth, tNotT, tTrue, tFalse, tAndT, tOrT, tIfE, tNeg, tNot, tOr, tAnd, tNil, tCons, tTup, tList, tSub, tDict, tBl, tB, tCall, tTypeIs, tIsInt, tUnpack, tUnpackR, tBrk, tCont, tRaise,
  slotQ, boolQ, truthQ, intQ, tupQ_tuple, listQ, strQ, subQ_t0, subQ_t1, subQ_l0, subQ_str, kI, kB, kAbs, kInt, kMin, kMax, kDivmod, setAll_cons, setAll_nil, outQ_ok, outQ_err, callPost_rt, callPost_nx, callPost_xx, turnP, kEq_int, kNe_int, kEq_n, kEq_f, kEq_c, kEq_u, kEq_p4, kNe_p4,
  List.getD_cons_zero, List.getD_cons_succ, List.set_cons_zero, List.set_cons_succ, valSlots, List.map_cons, List.map_nil, List.nil_append, List.cons_append, List.append_nil, List.replicate_succ, List.replicate_zero, List.length_cons, List.length_nil,
  true_and, and_true, bne_iff_ne, ne_eq, Bool.not_eq_true', Bool.not_eq_false', decide_eq_true_eq, decide_eq_false_iff_not, beq_iff_eq, beq_eq_false_iff_ne, bne_eq_false_iff_eq, Decidable.not_not, true_implies, Bool.true_eq_false, Bool.false_eq_true, false_implies, implies_true, not_true_eq_false, not_false_eq_true, reduceCtorEq, ok_inj, err_inj, Int.reduceEq, Int.reduceLT, Int.reduceLE, Int.reduceNeg, tupQ_mk, subQ_m0, subQ_m1, kEq_mk, sn_z, natAbs_z, natCast_z, kEq_mm, kNe_mm, bl_m1, bl_m2, bl_m3, Bool.and_false, Bool.false_and, Bool.not_false, Bool.not_true, Bool.and_true, Bool.true_and, Bool.and_eq_true, Bool.and_eq_false_iff])
theorem R_exp {w bits n d p} (hb : 1 ≤ bits) (hd : 0 < d) : (R w bits n d p).1 = 0 ∧ (R w bits n d p).2 = 0 ∨ (p - bits - bl (d : Int) ≤ (R w bits n d p).2 ∧ (R w bits n d p).2 ≤ p + bl n + bits) := by
  rcases R_spec (w := w) (n := n) (p := p) hb hd with ⟨h1, h2, h3⟩ | ⟨h1, h2, j, q, c, k, ⟨u, v, r, hj, g1, g2, g3⟩, q1, q2, q3, q4, q5⟩
  · exact .inl ⟨h2, h3⟩
  right
  obtain ⟨n1, n2⟩ := bl_bounds h1
  obtain ⟨d1, d2⟩ := bl_nat hd
  have hq : 1 ≤ q := by
    have : 2 ^ 1 ≤ 2 ^ bits := Nat.pow_le_pow_right (by decide) hb
    omega
  have hk : k ≤ bits := by
    refine Nat.le_of_not_lt fun z => ?_
    have h5 : 2 ^ (bits + 1) ≤ 2 ^ k := Nat.pow_le_pow_right (by decide) z
    have h6 : 1 * 2 ^ k ≤ (R w bits n d p).1.natAbs * 2 ^ k := Nat.mul_le_mul_right _ (by omega)
    have hub : (up w (decide (n < 0)) q c).toNat ≤ 1 := by cases up w _ q c <;> decide
    rw [Nat.pow_succ] at h5
    have := two_pos bits
    omega
  have j1 : j ≤ bl n := by
    refine Int.not_lt.mp fun z => ?_
    have h5 : 2 ^ (bl n + u) ≤ 2 ^ v := Nat.pow_le_pow_right (by decide) (by omega)
    have h6 := Nat.mul_lt_mul_of_pos_right n2 (two_pos u)
    rw [← Nat.pow_add] at h6
    have h7 : 1 * 2 ^ v ≤ d * 2 ^ v := Nat.mul_le_mul_right _ hd
    have h8 := Nat.mul_le_mul_left (d * 2 ^ v) hq
    omega
  have j2 : -(bits : Int) - bl (d : Int) ≤ j := by
    refine Int.not_lt.mp fun z => ?_
    have h5 : 2 ^ (v + bits + bl (d : Int)) ≤ 2 ^ u := Nat.pow_le_pow_right (by decide) (by omega)
    have h6 : 1 * 2 ^ u ≤ n.natAbs * 2 ^ u := Nat.mul_le_mul_right _ (by omega)
    have h7 := Nat.mul_le_mul_left (d * 2 ^ v) (show q + 1 ≤ 2 ^ bits from q2)
    have h8 : d * 2 ^ v * 2 ^ bits < 2 ^ bl (d : Int) * (2 ^ v * 2 ^ bits) := by rw [Nat.mul_assoc]; exact Nat.mul_lt_mul_of_pos_right d2 (Nat.mul_pos (two_pos v) (two_pos bits))
    have e1 : 2 ^ (v + bits + bl (d : Int)) = 2 ^ bl (d : Int) * (2 ^ v * 2 ^ bits) := by rw [Nat.pow_add, Nat.pow_add]; grind
    have e2 : d * 2 ^ v * (q + 1) = d * 2 ^ v * q + d * 2 ^ v := by grind
    omega
  omega
theorem St_bl (n p : Int) : bl (St n p).1 ≤ max 1 (bl n) := by
  unfold St
  exact (R_can (w := .d) (bits := max 1 (bl n)) (n := n) (d := 1) (p := p) (by omega) (by decide)).2
theorem St_ends (n p : Int) : (St n p).1 = 0 ∧ (St n p).2 = 0 ∨ (p ≤ (St n p).2 ∧ (St n p).2 ≤ p + bl n) := by
  by_cases h : n = 0
  · left; rw [h, St_zero]; exact ⟨rfl, rfl⟩
  · right
    obtain ⟨k, g1, g2, g3⟩ := St_val (p := p) h
    have := St_exp_le (p := p) h
    omega
theorem sumN_bl (m e m' e' : Int) : bl (sumN m e m' e') ≤ max (bl m + (e - min e e').toNat) (bl m' + (e' - min e e').toNat) + 1 := by
  unfold sumN
  have h1 := bl_shl m (e - min e e').toNat
  have h2 := bl_shl m' (e' - min e e').toNat
  have h3 := bl_add (m * 2 ^ (e - min e e').toNat) (m' * 2 ^ (e' - min e e').toNat)
  omega
theorem pk_skip {k lit : Int} {A R : Tx} {ρ : List Slot} {σ : List (List PyData)} {P : Post} (h : k ≠ lit) (hR : R (.val (.int k) :: ρ) σ P) : tSeq (tIf (tTest (tBin kEq (tName 0) (tInt lit))) A tSkip) R (.val (.int k) :: ρ) σ P := by
  unfold tSeq tIf tTest tBin tName tInt slotQ
  show kEq (.int k) (.int lit) _
  rw [kEq_int]
  exact ⟨fun z => absurd (by simpa using z) h, fun _ => hR⟩
theorem pk_take {k : Int} {A R : Tx} {ρ : List Slot} {σ : List (List PyData)} {P : Post} (hA : A (.val (.int k) :: ρ) σ { P with nx := fun ρ' σ' => R ρ' σ' P }) : tSeq (tIf (tTest (tBin kEq (tName 0) (tInt k))) A tSkip) R (.val (.int k) :: ρ) σ P := by
  unfold tSeq tIf tTest tBin tName tInt slotQ
  show kEq (.int k) (.int k) _
  rw [kEq_int]
  exact ⟨fun _ => hA, fun z => absurd z (by simp)⟩
theorem sk_0 {k : Int} {ρ : List Slot} {σ : List (List PyData)} {P : Post} (h : k ≠ 0) (hR : q_l_pack_2 cx (.val (.int k) :: ρ) σ P) : q_l_pack_1 cx (.val (.int k) :: ρ) σ P := s_l_pack_1 fun R hE => pk_skip h (hE ▸ hR)
theorem sk_1 {k : Int} {ρ : List Slot} {σ : List (List PyData)} {P : Post} (h : k ≠ 1) (hR : q_l_pack_3 cx (.val (.int k) :: ρ) σ P) : q_l_pack_2 cx (.val (.int k) :: ρ) σ P := s_l_pack_2 fun R hE => pk_skip h (hE ▸ hR)
theorem sk_2 {k : Int} {ρ : List Slot} {σ : List (List PyData)} {P : Post} (h : k ≠ 2) (hR : q_l_pack_4 cx (.val (.int k) :: ρ) σ P) : q_l_pack_3 cx (.val (.int k) :: ρ) σ P := s_l_pack_3 fun R hE => pk_skip h (hE ▸ hR)
theorem sk_3 {k : Int} {ρ : List Slot} {σ : List (List PyData)} {P : Post} (h : k ≠ 3) (hR : q_l_pack_5 cx (.val (.int k) :: ρ) σ P) : q_l_pack_4 cx (.val (.int k) :: ρ) σ P := s_l_pack_4 fun R hE => pk_skip h (hE ▸ hR)
theorem sk_4 {k : Int} {ρ : List Slot} {σ : List (List PyData)} {P : Post} (h : k ≠ 4) (hR : q_l_pack_6 cx (.val (.int k) :: ρ) σ P) : q_l_pack_5 cx (.val (.int k) :: ρ) σ P := s_l_pack_5 fun R hE => pk_skip h (hE ▸ hR)
theorem sk_5 {k : Int} {ρ : List Slot} {σ : List (List PyData)} {P : Post} (h : k ≠ 5) (hR : q_l_pack_7 cx (.val (.int k) :: ρ) σ P) : q_l_pack_6 cx (.val (.int k) :: ρ) σ P := s_l_pack_6 fun R hE => pk_skip h (hE ▸ hR)
theorem sk_6 {k : Int} {ρ : List Slot} {σ : List (List PyData)} {P : Post} (h : k ≠ 6) (hR : q_l_pack_8 cx (.val (.int k) :: ρ) σ P) : q_l_pack_7 cx (.val (.int k) :: ρ) σ P := s_l_pack_7 fun R hE => pk_skip h (hE ▸ hR)
theorem sk_7 {k : Int} {ρ : List Slot} {σ : List (List PyData)} {P : Post} (h : k ≠ 7) (hR : q_l_pack_9 cx (.val (.int k) :: ρ) σ P) : q_l_pack_8 cx (.val (.int k) :: ρ) σ P := s_l_pack_8 fun R hE => pk_skip h (hE ▸ hR)
theorem sk_8 {k : Int} {ρ : List Slot} {σ : List (List PyData)} {P : Post} (h : k ≠ 8) (hR : q_l_pack_10 cx (.val (.int k) :: ρ) σ P) : q_l_pack_9 cx (.val (.int k) :: ρ) σ P := s_l_pack_9 fun R hE => pk_skip h (hE ▸ hR)
theorem sk_9 {k : Int} {ρ : List Slot} {σ : List (List PyData)} {P : Post} (h : k ≠ 9) (hR : q_l_pack_11 cx (.val (.int k) :: ρ) σ P) : q_l_pack_10 cx (.val (.int k) :: ρ) σ P := s_l_pack_10 fun R hE => pk_skip h (hE ▸ hR)
theorem sk_10 {k : Int} {ρ : List Slot} {σ : List (List PyData)} {P : Post} (h : k ≠ 10) (hR : q_l_pack_12 cx (.val (.int k) :: ρ) σ P) : q_l_pack_11 cx (.val (.int k) :: ρ) σ P := s_l_pack_11 fun R hE => pk_skip h (hE ▸ hR)
theorem sk_11 {k : Int} {ρ : List Slot} {σ : List (List PyData)} {P : Post} (h : k ≠ 11) (hR : q_l_pack_13 cx (.val (.int k) :: ρ) σ P) : q_l_pack_12 cx (.val (.int k) :: ρ) σ P := s_l_pack_12 fun R hE => pk_skip h (hE ▸ hR)
theorem sk_12 {k : Int} {ρ : List Slot} {σ : List (List PyData)} {P : Post} (h : k ≠ 12) (hR : q_l_pack_14 cx (.val (.int k) :: ρ) σ P) : q_l_pack_13 cx (.val (.int k) :: ρ) σ P := s_l_pack_13 fun R hE => pk_skip h (hE ▸ hR)
theorem sk_13 {k : Int} {ρ : List Slot} {σ : List (List PyData)} {P : Post} (h : k ≠ 13) (hR : q_l_pack_15 cx (.val (.int k) :: ρ) σ P) : q_l_pack_14 cx (.val (.int k) :: ρ) σ P := s_l_pack_14 fun R hE => pk_skip h (hE ▸ hR)
theorem sk_14 {k : Int} {ρ : List Slot} {σ : List (List PyData)} {P : Post} (h : k ≠ 14) (hR : q_l_pack_16 cx (.val (.int k) :: ρ) σ P) : q_l_pack_15 cx (.val (.int k) :: ρ) σ P := s_l_pack_15 fun R hE => pk_skip h (hE ▸ hR)
theorem sk_15 {k : Int} {ρ : List Slot} {σ : List (List PyData)} {P : Post} (h : k ≠ 15) (hR : q_l_pack_17 cx (.val (.int k) :: ρ) σ P) : q_l_pack_16 cx (.val (.int k) :: ρ) σ P := s_l_pack_16 fun R hE => pk_skip h (hE ▸ hR)
theorem sk_16 {k : Int} {ρ : List Slot} {σ : List (List PyData)} {P : Post} (h : k ≠ 16) (hR : q_l_pack_18 cx (.val (.int k) :: ρ) σ P) : q_l_pack_17 cx (.val (.int k) :: ρ) σ P := s_l_pack_17 fun R hE => pk_skip h (hE ▸ hR)
theorem sk_17 {k : Int} {ρ : List Slot} {σ : List (List PyData)} {P : Post} (h : k ≠ 17) (hR : q_l_pack_19 cx (.val (.int k) :: ρ) σ P) : q_l_pack_18 cx (.val (.int k) :: ρ) σ P := s_l_pack_18 fun R hE => pk_skip h (hE ▸ hR)
abbrev few (n : Int) (bits : Nat) : Nat := (1 + n.fmod bits).toNat
theorem few_ok {n : Int} {bits : Nat} (hb : 1 ≤ bits) : 1 + n.fmod bits = (few n bits : Nat) ∧ 1 ≤ few n bits ∧ few n bits ≤ bits := by
  unfold few
  have h1 : n.fmod bits = n % bits := Int.fmod_eq_emod_of_nonneg _ (by omega)
  have h2 := Int.emod_nonneg n (show (bits : Int) ≠ 0 by omega)
  have h3 := Int.emod_lt_of_pos n (show (0 : Int) < bits by omega)
  rw [h1]; omega
/-- a register -/
def Reg (bits : Nat) (v : Int × Int) : Prop := Odd0 v.1 v.2 ∧ bl v.1 ≤ bits ∧ -400 ≤ v.2 ∧ v.2 ≤ 400
theorem pack_0 (hK : KK cx) {w : Way} {v x u : Int × Int} {n : Int} {bits : Nat} (hb : 1 ≤ bits) (hb2 : bits ≤ 32) (hv : Reg bits v) (hx : Reg bits x) (hu : Reg bits u) :
    CallOK cx 359 7 [.int 0, mkr v, mkr x, mkr u, .int n, .int bits, .str w.s] (.ok (mkr (rz bits w (sumN v.1 v.2 x.1 x.2) (min v.2 x.2)))) := by
  obtain ⟨v1, v2, v3, v4⟩ := hv
  obtain ⟨x1, x2, x3, x4⟩ := hx
  obtain ⟨u1, u2, u3, u4⟩ := hu
  obtain ⟨f1, f2, f3⟩ := few_ok (n := n) hb
  refine w_l_pack hK rfl (s_l_pack fun R0 h0 => ?_)
  walk_at "vc"
  refine ⟨by omega, ?_⟩
  rw [h0, f1]
  refine ?_
  refine s_l_pack_1 fun R hE => pk_take ?_
  clear hE h0
  walk_at "vc"
  exact callI (add4_ok hK v1 x1 (by omega) (by omega) (by omega) (by omega) (.inr (.inl ⟨v2, x2, by omega⟩))) (by decide) rfl
theorem pack_1 (hK : KK cx) {w : Way} {v x u : Int × Int} {n : Int} {bits : Nat} (hb : 1 ≤ bits) (hb2 : bits ≤ 32) (hv : Reg bits v) (hx : Reg bits x) (hu : Reg bits u) :
    CallOK cx 359 7 [.int 1, mkr v, mkr x, mkr u, .int n, .int bits, .str w.s] (.ok (mkr (rz bits w (sumN v.1 v.2 (-x.1) x.2) (min v.2 x.2)))) := by
  obtain ⟨v1, v2, v3, v4⟩ := hv
  obtain ⟨x1, x2, x3, x4⟩ := hx
  obtain ⟨u1, u2, u3, u4⟩ := hu
  obtain ⟨f1, f2, f3⟩ := few_ok (n := n) hb
  refine w_l_pack hK rfl (s_l_pack fun R0 h0 => ?_)
  walk_at "vc"
  refine ⟨by omega, ?_⟩
  rw [h0, f1]
  refine sk_0 (by decide) (?_)
  refine s_l_pack_2 fun R hE => pk_take ?_
  clear hE h0
  walk_at "vc"
  exact callI (subt_ok hK v1 x1 (by omega) (by omega) (by omega) (by omega) (.inr (.inl ⟨v2, x2, by omega⟩))) (by decide) rfl
theorem pack_2 (hK : KK cx) {w : Way} {v x u : Int × Int} {n : Int} {bits : Nat} (hb : 1 ≤ bits) (hb2 : bits ≤ 32) (hv : Reg bits v) (hx : Reg bits x) (hu : Reg bits u) :
    CallOK cx 359 7 [.int 2, mkr v, mkr x, mkr u, .int n, .int bits, .str w.s] (.ok (mkr (rz bits w (v.1 * x.1) (v.2 + x.2)))) := by
  obtain ⟨v1, v2, v3, v4⟩ := hv
  obtain ⟨x1, x2, x3, x4⟩ := hx
  obtain ⟨u1, u2, u3, u4⟩ := hu
  obtain ⟨f1, f2, f3⟩ := few_ok (n := n) hb
  refine w_l_pack hK rfl (s_l_pack fun R0 h0 => ?_)
  walk_at "vc"
  refine ⟨by omega, ?_⟩
  rw [h0, f1]
  refine sk_0 (by decide) (sk_1 (by decide) (?_))
  refine s_l_pack_3 fun R hE => pk_take ?_
  clear hE h0
  walk_at "vc"
  exact callI (mul4_ok hK v1 x1 (by omega) (by omega)) (by decide) rfl
theorem pack_3 (hK : KK cx) {w : Way} {v x u : Int × Int} {n : Int} {bits : Nat} (hb : 1 ≤ bits) (hb2 : bits ≤ 32) (hv : Reg bits v) (hx : Reg bits x) (hu : Reg bits u) :
    CallOK cx 359 7 [.int 3, mkr v, mkr x, mkr u, .int n, .int bits, .str w.s] (if x.1 = 0 then .error .zde else .ok (mkr (quo w bits v.1 v.2 x.1 x.2))) := by
  obtain ⟨v1, v2, v3, v4⟩ := hv
  obtain ⟨x1, x2, x3, x4⟩ := hx
  obtain ⟨u1, u2, u3, u4⟩ := hu
  obtain ⟨f1, f2, f3⟩ := few_ok (n := n) hb
  refine w_l_pack hK rfl (s_l_pack fun R0 h0 => ?_)
  walk_at "vc"
  refine ⟨by omega, ?_⟩
  rw [h0, f1]
  refine sk_0 (by decide) (sk_1 (by decide) (sk_2 (by decide) (?_)))
  refine s_l_pack_4 fun R hE => pk_take ?_
  clear hE h0
  have hc := div_ok hK (w := w) (prec := bits) hb (by omega) v1 x1 (by omega) (by omega)
  generalize (if x.1 = 0 then Except.error Exn.zde else Except.ok (mkr (quo w bits v.1 v.2 x.1 x.2))) = out at *
  walk_at "vc"
  refine ⟨_, _, hc, by decide, ?_⟩
  cases out <;> exact rfl
theorem pack_4 (hK : KK cx) {w : Way} {v x u : Int × Int} {n : Int} {bits : Nat} (hb : 1 ≤ bits) (hb2 : bits ≤ 32) (hv : Reg bits v) (hx : Reg bits x) (hu : Reg bits u) (hx0 : x.1 ≠ 0) :
    CallOK cx 359 7 [.int 4, mkr v, mkr x, mkr u, .int n, .int bits, .str w.s] (.ok (mkr (rest w bits v.1 v.2 x.1 x.2))) := by
  obtain ⟨v1, v2, v3, v4⟩ := hv
  obtain ⟨x1, x2, x3, x4⟩ := hx
  obtain ⟨u1, u2, u3, u4⟩ := hu
  obtain ⟨f1, f2, f3⟩ := few_ok (n := n) hb
  refine w_l_pack hK rfl (s_l_pack fun R0 h0 => ?_)
  walk_at "vc"
  refine ⟨by omega, ?_⟩
  rw [h0, f1]
  refine sk_0 (by decide) (sk_1 (by decide) (sk_2 (by decide) (sk_3 (by decide) (?_))))
  refine s_l_pack_5 fun R hE => pk_take ?_
  clear hE h0
  walk_at "vc"
  exact callI (mod_ok hK hb v1 x1 hx0 v2 (by omega) (by omega) (by omega) (by omega)) (by decide) rfl
theorem pack_5 (hK : KK cx) {w : Way} {v x u : Int × Int} {n : Int} {bits : Nat} (hb : 1 ≤ bits) (hb2 : bits ≤ 32) (hv : Reg bits v) (hx : Reg bits x) (hu : Reg bits u) :
    CallOK cx 359 7 [.int 5, mkr v, mkr x, mkr u, .int n, .int bits, .str w.s] (.ok (mkr (rz (few n bits) w (-v.1) v.2))) := by
  obtain ⟨v1, v2, v3, v4⟩ := hv
  obtain ⟨x1, x2, x3, x4⟩ := hx
  obtain ⟨u1, u2, u3, u4⟩ := hu
  obtain ⟨f1, f2, f3⟩ := few_ok (n := n) hb
  refine w_l_pack hK rfl (s_l_pack fun R0 h0 => ?_)
  walk_at "vc"
  refine ⟨by omega, ?_⟩
  rw [h0, f1]
  refine sk_0 (by decide) (sk_1 (by decide) (sk_2 (by decide) (sk_3 (by decide) (sk_4 (by decide) (?_)))))
  refine s_l_pack_6 fun R hE => pk_take ?_
  clear hE h0
  walk_at "vc"
  exact callI (neg_ok hK v1 (by omega)) (by decide) rfl
theorem pack_6 (hK : KK cx) {w : Way} {v x u : Int × Int} {n : Int} {bits : Nat} (hb : 1 ≤ bits) (hb2 : bits ≤ 32) (hv : Reg bits v) (hx : Reg bits x) (hu : Reg bits u) :
    CallOK cx 359 7 [.int 6, mkr v, mkr x, mkr u, .int n, .int bits, .str w.s] (.ok (mkr (rz (few n bits) w (v.1.natAbs : Nat) v.2))) := by
  obtain ⟨v1, v2, v3, v4⟩ := hv
  obtain ⟨x1, x2, x3, x4⟩ := hx
  obtain ⟨u1, u2, u3, u4⟩ := hu
  obtain ⟨f1, f2, f3⟩ := few_ok (n := n) hb
  refine w_l_pack hK rfl (s_l_pack fun R0 h0 => ?_)
  walk_at "vc"
  refine ⟨by omega, ?_⟩
  rw [h0, f1]
  refine sk_0 (by decide) (sk_1 (by decide) (sk_2 (by decide) (sk_3 (by decide) (sk_4 (by decide) (sk_5 (by decide) (?_))))))
  refine s_l_pack_7 fun R hE => pk_take ?_
  clear hE h0
  walk_at "vc"
  exact callI (abs_ok hK v1 (by omega) f2) (by decide) rfl
theorem pack_7 (hK : KK cx) {w : Way} {v x u : Int × Int} {n : Int} {bits : Nat} (hb : 1 ≤ bits) (hb2 : bits ≤ 32) (hv : Reg bits v) (hx : Reg bits x) (hu : Reg bits u) :
    CallOK cx 359 7 [.int 7, mkr v, mkr x, mkr u, .int n, .int bits, .str w.s] (.ok (mkr (rz (few n bits) w v.1 v.2))) := by
  obtain ⟨v1, v2, v3, v4⟩ := hv
  obtain ⟨x1, x2, x3, x4⟩ := hx
  obtain ⟨u1, u2, u3, u4⟩ := hu
  obtain ⟨f1, f2, f3⟩ := few_ok (n := n) hb
  refine w_l_pack hK rfl (s_l_pack fun R0 h0 => ?_)
  walk_at "vc"
  refine ⟨by omega, ?_⟩
  rw [h0, f1]
  refine sk_0 (by decide) (sk_1 (by decide) (sk_2 (by decide) (sk_3 (by decide) (sk_4 (by decide) (sk_5 (by decide) (sk_6 (by decide) (?_)))))))
  refine s_l_pack_8 fun R hE => pk_take ?_
  clear hE h0
  walk_at "vc"
  exact callI (pos_ok hK v1 (by omega)) (by decide) rfl
theorem pack_8 (hK : KK cx) {w : Way} {v x u : Int × Int} {n : Int} {bits : Nat} (hb : 1 ≤ bits) (hb2 : bits ≤ 32) (hv : Reg bits v) (hx : Reg bits x) (hu : Reg bits u) :
    CallOK cx 359 7 [.int 8, mkr v, mkr x, mkr u, .int n, .int bits, .str w.s] (.ok (if v.1 = 0 then mkr v else mk v.1 (v.2 + (n.fmod 21 - 10)))) := by
  obtain ⟨v1, v2, v3, v4⟩ := hv
  obtain ⟨x1, x2, x3, x4⟩ := hx
  obtain ⟨u1, u2, u3, u4⟩ := hu
  obtain ⟨f1, f2, f3⟩ := few_ok (n := n) hb
  refine w_l_pack hK rfl (s_l_pack fun R0 h0 => ?_)
  walk_at "vc"
  refine ⟨by omega, ?_⟩
  rw [h0, f1]
  refine sk_0 (by decide) (sk_1 (by decide) (sk_2 (by decide) (sk_3 (by decide) (sk_4 (by decide) (sk_5 (by decide) (sk_6 (by decide) (sk_7 (by decide) (?_))))))))
  refine s_l_pack_9 fun R hE => pk_take ?_
  clear hE h0
  walk_at "vc"
  exact callI (shift_ok hK v1) (by decide) rfl
theorem pack_9 (hK : KK cx) {w : Way} {v x u : Int × Int} {n : Int} {bits : Nat} (hb : 1 ≤ bits) (hb2 : bits ≤ 32) (hv : Reg bits v) (hx : Reg bits x) (hu : Reg bits u) :
    CallOK cx 359 7 [.int 9, mkr v, mkr x, mkr u, .int n, .int bits, .str w.s] (if v.1 < 0 then .error .cplx else .ok (mkr (root w bits v.1 v.2))) := by
  obtain ⟨v1, v2, v3, v4⟩ := hv
  obtain ⟨x1, x2, x3, x4⟩ := hx
  obtain ⟨u1, u2, u3, u4⟩ := hu
  obtain ⟨f1, f2, f3⟩ := few_ok (n := n) hb
  refine w_l_pack hK rfl (s_l_pack fun R0 h0 => ?_)
  walk_at "vc"
  refine ⟨by omega, ?_⟩
  rw [h0, f1]
  refine sk_0 (by decide) (sk_1 (by decide) (sk_2 (by decide) (sk_3 (by decide) (sk_4 (by decide) (sk_5 (by decide) (sk_6 (by decide) (sk_7 (by decide) (sk_8 (by decide) (?_)))))))))
  refine s_l_pack_10 fun R hE => pk_take ?_
  clear hE h0
  have hc := sqrt_ok hK (w := w) (prec := bits) hb (by omega) v1 (by omega)
  generalize (if v.1 < 0 then Except.error Exn.cplx else Except.ok (mkr (root w bits v.1 v.2))) = out at *
  walk_at "vc"
  refine ⟨_, _, hc, by decide, ?_⟩
  cases out <;> exact rfl
theorem pack_10 (hK : KK cx) {w : Way} {v x u : Int × Int} {n : Int} {bits : Nat} (hb : 1 ≤ bits) (hb2 : bits ≤ 32) (hv : Reg bits v) (hx : Reg bits x) (hu : Reg bits u) :
    CallOK cx 359 7 [.int 10, mkr v, mkr x, mkr u, .int n, .int bits, .str w.s] (.ok (mkr (rz bits w (sumN v.1 v.2 (-(whole .f v.1 v.2)) 0) (min v.2 0)))) := by
  obtain ⟨v1, v2, v3, v4⟩ := hv
  obtain ⟨x1, x2, x3, x4⟩ := hx
  obtain ⟨u1, u2, u3, u4⟩ := hu
  obtain ⟨f1, f2, f3⟩ := few_ok (n := n) hb
  refine w_l_pack hK rfl (s_l_pack fun R0 h0 => ?_)
  walk_at "vc"
  refine ⟨by omega, ?_⟩
  rw [h0, f1]
  refine sk_0 (by decide) (sk_1 (by decide) (sk_2 (by decide) (sk_3 (by decide) (sk_4 (by decide) (sk_5 (by decide) (sk_6 (by decide) (sk_7 (by decide) (sk_8 (by decide) (sk_9 (by decide) (?_))))))))))
  refine s_l_pack_11 fun R hE => pk_take ?_
  clear hE h0
  walk_at "vc"
  exact callI (frac_ok hK hb (by omega) v2 v1 (by omega) (by omega)) (by decide) rfl
theorem pack_11 (hK : KK cx) {w : Way} {v x u : Int × Int} {n : Int} {bits : Nat} (hb : 1 ≤ bits) (hb2 : bits ≤ 32) (hv : Reg bits v) (hx : Reg bits x) (hu : Reg bits u) :
    CallOK cx 359 7 [.int 11, mkr v, mkr x, mkr u, .int n, .int bits, .str w.s] (.ok (mkr (rz bits w (whole .f v.1 v.2) 0))) := by
  obtain ⟨v1, v2, v3, v4⟩ := hv
  obtain ⟨x1, x2, x3, x4⟩ := hx
  obtain ⟨u1, u2, u3, u4⟩ := hu
  obtain ⟨f1, f2, f3⟩ := few_ok (n := n) hb
  refine w_l_pack hK rfl (s_l_pack fun R0 h0 => ?_)
  walk_at "vc"
  refine ⟨by omega, ?_⟩
  rw [h0, f1]
  refine sk_0 (by decide) (sk_1 (by decide) (sk_2 (by decide) (sk_3 (by decide) (sk_4 (by decide) (sk_5 (by decide) (sk_6 (by decide) (sk_7 (by decide) (sk_8 (by decide) (sk_9 (by decide) (sk_10 (by decide) (?_)))))))))))
  refine s_l_pack_12 fun R hE => pk_take ?_
  clear hE h0
  walk_at "vc"
  exact callI (floor3_ok hK hb v1 (by omega)) (by decide) rfl
theorem pack_12 (hK : KK cx) {w : Way} {v x u : Int × Int} {n : Int} {bits : Nat} (hb : 1 ≤ bits) (hb2 : bits ≤ 32) (hv : Reg bits v) (hx : Reg bits x) (hu : Reg bits u) :
    CallOK cx 359 7 [.int 12, mkr v, mkr x, mkr u, .int n, .int bits, .str w.s] (.ok (mkr (rz bits w (whole .c v.1 v.2) 0))) := by
  obtain ⟨v1, v2, v3, v4⟩ := hv
  obtain ⟨x1, x2, x3, x4⟩ := hx
  obtain ⟨u1, u2, u3, u4⟩ := hu
  obtain ⟨f1, f2, f3⟩ := few_ok (n := n) hb
  refine w_l_pack hK rfl (s_l_pack fun R0 h0 => ?_)
  walk_at "vc"
  refine ⟨by omega, ?_⟩
  rw [h0, f1]
  refine sk_0 (by decide) (sk_1 (by decide) (sk_2 (by decide) (sk_3 (by decide) (sk_4 (by decide) (sk_5 (by decide) (sk_6 (by decide) (sk_7 (by decide) (sk_8 (by decide) (sk_9 (by decide) (sk_10 (by decide) (sk_11 (by decide) (?_))))))))))))
  refine s_l_pack_13 fun R hE => pk_take ?_
  clear hE h0
  walk_at "vc"
  exact callI (ceil3_ok hK hb v1 (by omega)) (by decide) rfl
theorem pack_13 (hK : KK cx) {w : Way} {v x u : Int × Int} {n : Int} {bits : Nat} (hb : 1 ≤ bits) (hb2 : bits ≤ 32) (hv : Reg bits v) (hx : Reg bits x) (hu : Reg bits u) :
    CallOK cx 359 7 [.int 13, mkr v, mkr x, mkr u, .int n, .int bits, .str w.s] (.ok (mkr (rz bits w (whole .n v.1 v.2) 0))) := by
  obtain ⟨v1, v2, v3, v4⟩ := hv
  obtain ⟨x1, x2, x3, x4⟩ := hx
  obtain ⟨u1, u2, u3, u4⟩ := hu
  obtain ⟨f1, f2, f3⟩ := few_ok (n := n) hb
  refine w_l_pack hK rfl (s_l_pack fun R0 h0 => ?_)
  walk_at "vc"
  refine ⟨by omega, ?_⟩
  rw [h0, f1]
  refine sk_0 (by decide) (sk_1 (by decide) (sk_2 (by decide) (sk_3 (by decide) (sk_4 (by decide) (sk_5 (by decide) (sk_6 (by decide) (sk_7 (by decide) (sk_8 (by decide) (sk_9 (by decide) (sk_10 (by decide) (sk_11 (by decide) (sk_12 (by decide) (?_)))))))))))))
  refine s_l_pack_14 fun R hE => pk_take ?_
  clear hE h0
  walk_at "vc"
  exact callI (nint3_ok hK hb v1 (by omega)) (by decide) rfl
theorem pack_14 (hK : KK cx) {w : Way} {v x u : Int × Int} {n : Int} {bits : Nat} (hb : 1 ≤ bits) (hb2 : bits ≤ 32) (hv : Reg bits v) (hx : Reg bits x) (hu : Reg bits u) :
    CallOK cx 359 7 [.int 14, mkr v, mkr x, mkr u, .int n, .int bits, .str w.s] (.ok (mkr (rz bits w (v.1 ^ (n.fmod 6).toNat) (v.2 * n.fmod 6)))) := by
  obtain ⟨v1, v2, v3, v4⟩ := hv
  obtain ⟨x1, x2, x3, x4⟩ := hx
  obtain ⟨u1, u2, u3, u4⟩ := hu
  obtain ⟨f1, f2, f3⟩ := few_ok (n := n) hb
  refine w_l_pack hK rfl (s_l_pack fun R0 h0 => ?_)
  walk_at "vc"
  refine ⟨by omega, ?_⟩
  rw [h0, f1]
  refine sk_0 (by decide) (sk_1 (by decide) (sk_2 (by decide) (sk_3 (by decide) (sk_4 (by decide) (sk_5 (by decide) (sk_6 (by decide) (sk_7 (by decide) (sk_8 (by decide) (sk_9 (by decide) (sk_10 (by decide) (sk_11 (by decide) (sk_12 (by decide) (sk_13 (by decide) (?_))))))))))))))
  refine s_l_pack_15 fun R hE => pk_take ?_
  clear hE h0
  walk_at "vc"
  have h1 : n.fmod 6 = n % 6 := Int.fmod_eq_emod_of_nonneg _ (by decide)
  obtain ⟨y, hy⟩ : ∃ y : Nat, n.fmod 6 = y := ⟨(n.fmod 6).toNat, by omega⟩
  rw [hy, Int.toNat_natCast]
  exact callI (pow_ok hK hb v1 (by omega) (by omega) (by omega)) (by decide) rfl
theorem pack_15 (hK : KK cx) {w : Way} {v x u : Int × Int} {n : Int} {bits : Nat} (hb : 1 ≤ bits) (hb2 : bits ≤ 32) (hv : Reg bits v) (hx : Reg bits x) (hu : Reg bits u) :
    CallOK cx 359 7 [.int 15, mkr v, mkr x, mkr u, .int n, .int bits, .str w.s] (.ok (mkr (rz bits w (v.1 * (n.fmod 2001 - 1000)) v.2))) := by
  obtain ⟨v1, v2, v3, v4⟩ := hv
  obtain ⟨x1, x2, x3, x4⟩ := hx
  obtain ⟨u1, u2, u3, u4⟩ := hu
  obtain ⟨f1, f2, f3⟩ := few_ok (n := n) hb
  refine w_l_pack hK rfl (s_l_pack fun R0 h0 => ?_)
  walk_at "vc"
  refine ⟨by omega, ?_⟩
  rw [h0, f1]
  refine sk_0 (by decide) (sk_1 (by decide) (sk_2 (by decide) (sk_3 (by decide) (sk_4 (by decide) (sk_5 (by decide) (sk_6 (by decide) (sk_7 (by decide) (sk_8 (by decide) (sk_9 (by decide) (sk_10 (by decide) (sk_11 (by decide) (sk_12 (by decide) (sk_13 (by decide) (sk_14 (by decide) (?_)))))))))))))))
  refine s_l_pack_16 fun R hE => pk_take ?_
  clear hE h0
  walk_at "vc"
  have h1 : n.fmod 2001 = n % 2001 := Int.fmod_eq_emod_of_nonneg _ (by decide)
  have h2 : bl (n.fmod 2001 - 1000) ≤ 10 := bl_le.mpr (by omega)
  exact callI (mul_int_ok hK hb v1 (by omega) (by omega)) (by decide) rfl
theorem pack_16 (hK : KK cx) {w : Way} {v x u : Int × Int} {n : Int} {bits : Nat} (hb : 1 ≤ bits) (hb2 : bits ≤ 32) (hv : Reg bits v) (hx : Reg bits x) (hu : Reg bits u) :
    CallOK cx 359 7 [.int 16, mkr v, mkr x, mkr u, .int n, .int bits, .str w.s] (if v.1 = 0 then .error .zde else .ok (mkr (quo w bits (n.fmod 2001 - 1000) 0 v.1 v.2))) := by
  obtain ⟨v1, v2, v3, v4⟩ := hv
  obtain ⟨x1, x2, x3, x4⟩ := hx
  obtain ⟨u1, u2, u3, u4⟩ := hu
  obtain ⟨f1, f2, f3⟩ := few_ok (n := n) hb
  refine w_l_pack hK rfl (s_l_pack fun R0 h0 => ?_)
  walk_at "vc"
  refine ⟨by omega, ?_⟩
  rw [h0, f1]
  refine sk_0 (by decide) (sk_1 (by decide) (sk_2 (by decide) (sk_3 (by decide) (sk_4 (by decide) (sk_5 (by decide) (sk_6 (by decide) (sk_7 (by decide) (sk_8 (by decide) (sk_9 (by decide) (sk_10 (by decide) (sk_11 (by decide) (sk_12 (by decide) (sk_13 (by decide) (sk_14 (by decide) (sk_15 (by decide) (?_))))))))))))))))
  refine s_l_pack_17 fun R hE => pk_take ?_
  clear hE h0
  have h1 : n.fmod 2001 = n % 2001 := Int.fmod_eq_emod_of_nonneg _ (by decide)
  have h2 : bl (n.fmod 2001 - 1000) ≤ 10 := bl_le.mpr (by omega)
  have hc := rdiv_ok hK (w := w) (prec := bits) (n := n.fmod 2001 - 1000) hb (by omega) v1 (by omega) (by omega)
  generalize (if v.1 = 0 then Except.error Exn.zde else Except.ok (mkr (quo w bits (n.fmod 2001 - 1000) 0 v.1 v.2))) = out at *
  walk_at "vc"
  refine ⟨_, _, hc, by decide, ?_⟩
  cases out <;> exact rfl
theorem pack_17 (hK : KK cx) {w : Way} {v x u : Int × Int} {n : Int} {bits : Nat} (hb : 1 ≤ bits) (hb2 : bits ≤ 32) (hv : Reg bits v) (hx : Reg bits x) (hu : Reg bits u) :
    CallOK cx 359 7 [.int 17, mkr v, mkr x, mkr u, .int n, .int bits, .str w.s] (.ok (mkr (rz bits w (rowSum [v, x, u, v] (0, 0)).1 (rowSum [v, x, u, v] (0, 0)).2))) := by
  obtain ⟨v1, v2, v3, v4⟩ := hv
  obtain ⟨x1, x2, x3, x4⟩ := hx
  obtain ⟨u1, u2, u3, u4⟩ := hu
  obtain ⟨f1, f2, f3⟩ := few_ok (n := n) hb
  refine w_l_pack hK rfl (s_l_pack fun R0 h0 => ?_)
  walk_at "vc"
  refine ⟨by omega, ?_⟩
  rw [h0, f1]
  refine sk_0 (by decide) (sk_1 (by decide) (sk_2 (by decide) (sk_3 (by decide) (sk_4 (by decide) (sk_5 (by decide) (sk_6 (by decide) (sk_7 (by decide) (sk_8 (by decide) (sk_9 (by decide) (sk_10 (by decide) (sk_11 (by decide) (sk_12 (by decide) (sk_13 (by decide) (sk_14 (by decide) (sk_15 (by decide) (sk_16 (by decide) (?_)))))))))))))))))
  refine s_l_pack_18 fun R hE => pk_take ?_
  clear hE h0
  walk_at "vc"
  have hs := sum_ok hK (l := [v, x, u, v]) (by simp) (by
    intro y hy
    simp only [List.mem_cons, List.not_mem_nil, or_false] at hy
    rcases hy with rfl | rfl | rfl | rfl
    · exact ⟨v1, by omega, by omega, by omega⟩
    · exact ⟨x1, by omega, by omega, by omega⟩
    · exact ⟨u1, by omega, by omega, by omega⟩
    · exact ⟨v1, by omega, by omega, by omega⟩)
  refine ⟨by simp, callI hs (by decide) ?_⟩
  have key : bl (rowSum [v, x, u, v] (0, 0)).1 ≤ 4000 := by
    have step : ∀ {a y : Int × Int} {N : Nat}, bl a.1 ≤ N → 32 ≤ N → -400 ≤ a.2 ∧ a.2 ≤ 400 → bl y.1 ≤ 32 → -400 ≤ y.2 ∧ y.2 ≤ 400 → bl (if y.1 = 0 then a else (sumN a.1 a.2 y.1 y.2, min a.2 y.2)).1 ≤ N + 801 ∧ (-400 ≤ (if y.1 = 0 then a else (sumN a.1 a.2 y.1 y.2, min a.2 y.2)).2 ∧ (if y.1 = 0 then a else (sumN a.1 a.2 y.1 y.2, min a.2 y.2)).2 ≤ 400) := by
      intro a y N h1 h0 h2 h3 h4
      split
      · exact ⟨by omega, h2⟩
      · have := sumN_bl a.1 a.2 y.1 y.2
        dsimp only
        omega
    obtain ⟨s1, t1⟩ := step (a := (0, 0)) (y := v) (N := 32) (by decide) (by decide) (by decide) (by omega) (by omega)
    obtain ⟨s2, t2⟩ := step (y := x) s1 (by decide) t1 (by omega) (by omega)
    obtain ⟨s3, t3⟩ := step (y := u) s2 (by decide) t2 (by omega) (by omega)
    obtain ⟨s4, t4⟩ := step (y := v) s3 (by decide) t3 (by omega) (by omega)
    exact Nat.le_trans s4 (by decide)
  have hb9 : bl (St (rowSum [v, x, u, v] (0, 0)).1 (rowSum [v, x, u, v] (0, 0)).2).1 ≤ 2 ^ 26 := by
    have := St_bl (rowSum [v, x, u, v] (0, 0)).1 (rowSum [v, x, u, v] (0, 0)).2
    omega
  have hp := pos_ok hK (w := w) (prec := bits) (St_can (n := (rowSum [v, x, u, v] (0, 0)).1) (p := (rowSum [v, x, u, v] (0, 0)).2)) hb9
  unfold rz at hp
  rw [if_neg (by omega), R_St hb] at hp
  refine callI hp (by decide) ?_
  unfold rz; rw [if_neg (by omega)]; exact rfl
theorem pack_18 (hK : KK cx) {w : Way} {v x u : Int × Int} {n : Int} {bits : Nat} (hb : 1 ≤ bits) (hb2 : bits ≤ 32) (hv : Reg bits v) (hx : Reg bits x) (hu : Reg bits u) :
    CallOK cx 359 7 [.int 18, mkr v, mkr x, mkr u, .int n, .int bits, .str w.s] (.ok (mkr (rz bits w (sumN (v.1 * x.1) (v.2 + x.2) u.1 u.2) (min (v.2 + x.2) u.2)))) := by
  obtain ⟨v1, v2, v3, v4⟩ := hv
  obtain ⟨x1, x2, x3, x4⟩ := hx
  obtain ⟨u1, u2, u3, u4⟩ := hu
  obtain ⟨f1, f2, f3⟩ := few_ok (n := n) hb
  refine w_l_pack hK rfl (s_l_pack fun R0 h0 => ?_)
  walk_at "vc"
  refine ⟨by omega, ?_⟩
  rw [h0, f1]
  refine sk_0 (by decide) (sk_1 (by decide) (sk_2 (by decide) (sk_3 (by decide) (sk_4 (by decide) (sk_5 (by decide) (sk_6 (by decide) (sk_7 (by decide) (sk_8 (by decide) (sk_9 (by decide) (sk_10 (by decide) (sk_11 (by decide) (sk_12 (by decide) (sk_13 (by decide) (sk_14 (by decide) (sk_15 (by decide) (sk_16 (by decide) (sk_17 (by decide) (?_))))))))))))))))))
  unfold q_l_pack_19
  walk_at "vc"
  refine callI (mul2_ok hK v1 x1 (by omega) (by omega)) (by decide) ?_
  have hm := bl_mul v.1 x.1
  have hsb := St_bl (v.1 * x.1) (v.2 + x.2)
  have hse := St_ends (v.1 * x.1) (v.2 + x.2)
  have ha := add2_ok hK (St_can (n := v.1 * x.1) (p := v.2 + x.2)) u1 (by omega) (by omega) (by omega) (by omega)
  refine callI ha (by decide) ?_
  have hsn := sumN_bl (St (v.1 * x.1) (v.2 + x.2)).1 (St (v.1 * x.1) (v.2 + x.2)).2 u.1 u.2
  have hb9 := St_bl (sumN (St (v.1 * x.1) (v.2 + x.2)).1 (St (v.1 * x.1) (v.2 + x.2)).2 u.1 u.2) (min (St (v.1 * x.1) (v.2 + x.2)).2 u.2)
  have hp := pos_ok hK (w := w) (prec := bits) (St_can (n := sumN (St (v.1 * x.1) (v.2 + x.2)).1 (St (v.1 * x.1) (v.2 + x.2)).2 u.1 u.2) (p := min (St (v.1 * x.1) (v.2 + x.2)).2 u.2)) (by omega)
  have e1 : rz bits w (St (sumN (St (v.1 * x.1) (v.2 + x.2)).1 (St (v.1 * x.1) (v.2 + x.2)).2 u.1 u.2) (min (St (v.1 * x.1) (v.2 + x.2)).2 u.2)).1 (St (sumN (St (v.1 * x.1) (v.2 + x.2)).1 (St (v.1 * x.1) (v.2 + x.2)).2 u.1 u.2) (min (St (v.1 * x.1) (v.2 + x.2)).2 u.2)).2 = rz bits w (sumN (v.1 * x.1) (v.2 + x.2) u.1 u.2) (min (v.2 + x.2) u.2) := by
    have hR : ∀ n p, rz bits w (St n p).1 (St n p).2 = rz bits w n p := by
      intro n p; unfold rz; rw [if_neg (by omega), if_neg (by omega), R_St hb]
    rw [hR]
    refine rz_at (B := -2000) (by omega) (by omega) ?_
    rw [atB_sum (by omega) (by omega), atB_sum (by omega) (by omega), atB_St (by omega)]
  rw [e1] at hp
  exact callI hp (by decide) rfl
end Mine

namespace Mine
open PySem PySem.W PySem.Calls PyProof.Rows PySem.Spec
variable {cx : Cx}
local macro_rules | `(tactic| walk_at "vc") => `(tactic| simp only [tSeq, tSet, tIf, tRet, tSkip, tAug, tAssert, tBin, tTest, tName, tInt, tGlob, tStr, tBool, tNone, tTruth, tNotT, tTrue, tFalse, tAndT, tOrT, tIfE, tNeg, tNot, tOr, tAnd, tNil, tCons, tTup, tList, tSub, tDict, tBl, tB, tCall, tTypeIs, tIsInt, tUnpack, tUnpackR, tBrk, tCont, tRaise,
  slotQ, boolQ, truthQ, intQ, tupQ_tuple, listQ, strQ, subQ_t0, subQ_t1, subQ_l0, subQ_str, kI, kB, kAbs, kInt, kMin, kMax, kDivmod, setAll_cons, setAll_nil, outQ_ok, outQ_err, callPost_rt, callPost_nx, callPost_xx, turnP, kEq_int, kNe_int, kEq_n, kEq_f, kEq_c, kEq_u, kEq_p4, kNe_p4,
  List.getD_cons_zero, List.getD_cons_succ, List.set_cons_zero, List.set_cons_succ, valSlots, List.map_cons, List.map_nil, List.nil_append, List.cons_append, List.append_nil, List.replicate_succ, List.replicate_zero, List.length_cons, List.length_nil,
  true_and, and_true, bne_iff_ne, ne_eq, Bool.not_eq_true', Bool.not_eq_false', decide_eq_true_eq, decide_eq_false_iff_not, beq_iff_eq, beq_eq_false_iff_ne, bne_eq_false_iff_eq, Decidable.not_not, true_implies, Bool.true_eq_false, Bool.false_eq_true, false_implies, implies_true, not_true_eq_false, not_false_eq_true, reduceCtorEq, ok_inj, err_inj, Int.reduceEq, Int.reduceLT, Int.reduceLE, Int.reduceNeg, tupQ_mk, subQ_m0, subQ_m1, kEq_mk, sn_z, natAbs_z, natCast_z, kEq_mm, kNe_mm, bl_m1, bl_m2, bl_m3, Bool.and_false, Bool.false_and, Bool.not_false, Bool.not_true, Bool.and_true, Bool.true_and, Bool.and_eq_true, Bool.and_eq_false_iff])
theorem whole_bl2 {w : Way} {m e : Int} (hw : w.isF = true ∨ w.isC = true ∨ w.isN = true) : bl (whole w m e) ≤ bl m + e.toNat + 1 := by
  by_cases h : 0 ≤ e
  · unfold whole; rw [if_pos h]
    have := bl_shl m e.toNat
    omega
  · have := whole_bl (m := m) hw (show e < 0 by omega)
    omega
theorem plain_0 (hK : KK cx) {w : Way} {v x u : Int × Int} {n : Int} {bits : Nat} (hb : 1 ≤ bits) (hb2 : bits ≤ 32) (hv : Reg bits v) (hx : Reg bits x) (hu : Reg bits u) :
    CallOK cx 352 2 [.int 0, p2 v.1 v.2, p2 x.1 x.2, p2 u.1 u.2, .int n, .int bits, .str w.s] (.ok (p2 (rz (bits) w (sumN v.1 v.2 x.1 x.2) (min v.2 x.2)).1 (rz (bits) w (sumN v.1 v.2 x.1 x.2) (min v.2 x.2)).2)) := by
  obtain ⟨v1, v2, v3, v4⟩ := hv
  obtain ⟨x1, x2, x3, x4⟩ := hx
  obtain ⟨u1, u2, u3, u4⟩ := hu
  obtain ⟨f1, f2, f3⟩ := few_ok (n := n) hb
  refine w_l_plain hK rfl (s_l_plain fun R0 h0 => ?_)
  walk_at "vc"
  rw [h0]; refine s_l_plain_1 fun R1 h1 => ?_
  walk_at "vc"
  rw [h1]; refine s_l_plain_2 fun R2 h2 => ?_
  walk_at "vc"
  rw [h2]; refine s_l_plain_3 fun R3 h3 => ?_
  walk_at "vc"
  rw [h3]; refine s_l_plain_4 fun R4 h4 => ?_
  walk_at "vc"
  rw [h4]; refine s_l_plain_5 fun R5 h5 => ?_
  walk_at "vc"
  rw [h5]; refine s_l_plain_6 fun R6 h6 => ?_
  walk_at "vc"
  have hs := sumN_bl v.1 v.2 x.1 x.2
  refine callI (l_plus_ok hK (by omega) (by omega) (by omega) (by omega)) (by decide) ?_
  rw [h6]; unfold q_l_plain_7
  walk_at "vc"
  have erz : rz (bits) w (sumN v.1 v.2 x.1 x.2) (min v.2 x.2) = R w (bits) (sumN v.1 v.2 x.1 x.2) 1 (min v.2 x.2) := by unfold rz; rw [if_neg (by omega)]
  rw [erz]
  exact callI (l_round_ok hK (w := w) (num := sumN v.1 v.2 x.1 x.2) (den := 1) (power := min v.2 x.2) (by omega) (by omega) (by decide) (by omega) (by decide)) (by decide) rfl
theorem plain_1 (hK : KK cx) {w : Way} {v x u : Int × Int} {n : Int} {bits : Nat} (hb : 1 ≤ bits) (hb2 : bits ≤ 32) (hv : Reg bits v) (hx : Reg bits x) (hu : Reg bits u) :
    CallOK cx 352 2 [.int 1, p2 v.1 v.2, p2 x.1 x.2, p2 u.1 u.2, .int n, .int bits, .str w.s] (.ok (p2 (rz (bits) w (sumN v.1 v.2 (-x.1) x.2) (min v.2 x.2)).1 (rz (bits) w (sumN v.1 v.2 (-x.1) x.2) (min v.2 x.2)).2)) := by
  obtain ⟨v1, v2, v3, v4⟩ := hv
  obtain ⟨x1, x2, x3, x4⟩ := hx
  obtain ⟨u1, u2, u3, u4⟩ := hu
  obtain ⟨f1, f2, f3⟩ := few_ok (n := n) hb
  refine w_l_plain hK rfl (s_l_plain fun R0 h0 => ?_)
  walk_at "vc"
  rw [h0]; refine s_l_plain_1 fun R1 h1 => ?_
  walk_at "vc"
  rw [h1]; refine s_l_plain_2 fun R2 h2 => ?_
  walk_at "vc"
  rw [h2]; refine s_l_plain_3 fun R3 h3 => ?_
  walk_at "vc"
  rw [h3]; refine s_l_plain_4 fun R4 h4 => ?_
  walk_at "vc"
  rw [h4]; refine s_l_plain_5 fun R5 h5 => ?_
  walk_at "vc"
  rw [h5]; refine s_l_plain_6 fun R6 h6 => ?_
  walk_at "vc"
  have hs := sumN_bl v.1 v.2 (-x.1) x.2
  have hn := bl_neg x.1
  refine ⟨by simp, callI (l_plus_ok hK (by omega) (by omega) (by omega) (by omega)) (by decide) ?_⟩
  rw [h6]; unfold q_l_plain_7
  walk_at "vc"
  have erz : rz (bits) w (sumN v.1 v.2 (-x.1) x.2) (min v.2 x.2) = R w (bits) (sumN v.1 v.2 (-x.1) x.2) 1 (min v.2 x.2) := by unfold rz; rw [if_neg (by omega)]
  rw [erz]
  exact callI (l_round_ok hK (w := w) (num := sumN v.1 v.2 (-x.1) x.2) (den := 1) (power := min v.2 x.2) (by omega) (by omega) (by decide) (by omega) (by decide)) (by decide) rfl
theorem plain_2 (hK : KK cx) {w : Way} {v x u : Int × Int} {n : Int} {bits : Nat} (hb : 1 ≤ bits) (hb2 : bits ≤ 32) (hv : Reg bits v) (hx : Reg bits x) (hu : Reg bits u) :
    CallOK cx 352 2 [.int 2, p2 v.1 v.2, p2 x.1 x.2, p2 u.1 u.2, .int n, .int bits, .str w.s] (.ok (p2 (rz (bits) w (v.1 * x.1) (v.2 + x.2)).1 (rz (bits) w (v.1 * x.1) (v.2 + x.2)).2)) := by
  obtain ⟨v1, v2, v3, v4⟩ := hv
  obtain ⟨x1, x2, x3, x4⟩ := hx
  obtain ⟨u1, u2, u3, u4⟩ := hu
  obtain ⟨f1, f2, f3⟩ := few_ok (n := n) hb
  refine w_l_plain hK rfl (s_l_plain fun R0 h0 => ?_)
  walk_at "vc"
  rw [h0]; refine s_l_plain_1 fun R1 h1 => ?_
  walk_at "vc"
  rw [h1]; refine s_l_plain_2 fun R2 h2 => ?_
  walk_at "vc"
  rw [h2]; refine s_l_plain_3 fun R3 h3 => ?_
  walk_at "vc"
  rw [h3]; refine s_l_plain_4 fun R4 h4 => ?_
  walk_at "vc"
  rw [h4]; refine s_l_plain_5 fun R5 h5 => ?_
  walk_at "vc"
  rw [h5]; refine s_l_plain_6 fun R6 h6 => ?_
  walk_at "vc"
  have hm := bl_mul v.1 x.1
  refine ⟨⟨by omega, by omega⟩, by simp, ?_⟩
  rw [h6]; unfold q_l_plain_7
  walk_at "vc"
  have erz : rz (bits) w (v.1 * x.1) (v.2 + x.2) = R w (bits) (v.1 * x.1) 1 (v.2 + x.2) := by unfold rz; rw [if_neg (by omega)]
  rw [erz]
  exact callI (l_round_ok hK (w := w) (num := v.1 * x.1) (den := 1) (power := v.2 + x.2) (by omega) (by omega) (by decide) (by omega) (by decide)) (by decide) rfl
theorem plain_4 (hK : KK cx) {w : Way} {v x u : Int × Int} {n : Int} {bits : Nat} (hb : 1 ≤ bits) (hb2 : bits ≤ 32) (hv : Reg bits v) (hx : Reg bits x) (hu : Reg bits u) (hx0 : x.1 ≠ 0) :
    CallOK cx 352 2 [.int 4, p2 v.1 v.2, p2 x.1 x.2, p2 u.1 u.2, .int n, .int bits, .str w.s] (.ok (p2 (rest w bits v.1 v.2 x.1 x.2).1 (rest w bits v.1 v.2 x.1 x.2).2)) := by
  obtain ⟨v1, v2, v3, v4⟩ := hv
  obtain ⟨x1, x2, x3, x4⟩ := hx
  obtain ⟨u1, u2, u3, u4⟩ := hu
  obtain ⟨f1, f2, f3⟩ := few_ok (n := n) hb
  refine w_l_plain hK rfl (s_l_plain fun R0 h0 => ?_)
  walk_at "vc"
  rw [h0]; refine s_l_plain_1 fun R1 h1 => ?_
  walk_at "vc"
  rw [h1]; refine s_l_plain_2 fun R2 h2 => ?_
  walk_at "vc"
  rw [h2]; refine s_l_plain_3 fun R3 h3 => ?_
  walk_at "vc"
  rw [h3]; refine s_l_plain_4 fun R4 h4 => ?_
  walk_at "vc"
  rw [h4]; refine s_l_plain_5 fun R5 h5 => ?_
  walk_at "vc"
  rw [h5]; refine s_l_plain_6 fun R6 h6 => ?_
  walk_at "vc"
  have hmin : (if x.2 < v.2 then x.2 else v.2) = min v.2 x.2 := by split <;> omega
  rw [hmin]
  have hB : x.1 * 2 ^ (x.2 - min v.2 x.2).toNat ≠ 0 := fun z => by
    rcases Int.mul_eq_zero.mp z with z | z
    · exact hx0 z
    · exact absurd z (Int.ne_of_gt (Int.pow_pos (by decide)))
  have b1 := bl_shl v.1 (v.2 - min v.2 x.2).toNat
  have b2 := bl_shl x.1 (x.2 - min v.2 x.2).toNat
  have hr : rest w bits v.1 v.2 x.1 x.2 = rz bits w ((v.1 * 2 ^ (v.2 - min v.2 x.2).toNat).fmod (x.1 * 2 ^ (x.2 - min v.2 x.2).toNat)) (min v.2 x.2) := rfl
  rw [hr]
  generalize v.1 * 2 ^ (v.2 - min v.2 x.2).toNat = A at *
  generalize x.1 * 2 ^ (x.2 - min v.2 x.2).toNat = B at *
  have b3 : bl (A.fdiv B) ≤ bl A := intBits_fdiv_le (Nat.le_refl _)
  have b4 : bl (A.fmod B) ≤ bl B := intBits_le_of_natAbs (natAbs_fmod_le _ _ hB) (Nat.le_refl _)
  have e1 : A - B * A.fdiv B = A.fmod B := (Int.fmod_def A B).symm
  rw [e1]
  refine ⟨⟨by omega, by omega⟩, ⟨by omega, by omega⟩, ⟨hB, by omega⟩, ⟨by omega, by omega⟩, by simp, ?_⟩
  rw [h6]; unfold q_l_plain_7
  walk_at "vc"
  have erz : rz (bits) w (A.fmod B) (min v.2 x.2) = R w (bits) (A.fmod B) 1 (min v.2 x.2) := by unfold rz; rw [if_neg (by omega)]
  rw [erz]
  exact callI (l_round_ok hK (w := w) (num := A.fmod B) (den := 1) (power := min v.2 x.2) (by omega) (by omega) (by decide) (by omega) (by decide)) (by decide) rfl
theorem plain_5 (hK : KK cx) {w : Way} {v x u : Int × Int} {n : Int} {bits : Nat} (hb : 1 ≤ bits) (hb2 : bits ≤ 32) (hv : Reg bits v) (hx : Reg bits x) (hu : Reg bits u) :
    CallOK cx 352 2 [.int 5, p2 v.1 v.2, p2 x.1 x.2, p2 u.1 u.2, .int n, .int bits, .str w.s] (.ok (p2 (rz (few n bits) w (-v.1) (v.2)).1 (rz (few n bits) w (-v.1) (v.2)).2)) := by
  obtain ⟨v1, v2, v3, v4⟩ := hv
  obtain ⟨x1, x2, x3, x4⟩ := hx
  obtain ⟨u1, u2, u3, u4⟩ := hu
  obtain ⟨f1, f2, f3⟩ := few_ok (n := n) hb
  refine w_l_plain hK rfl (s_l_plain fun R0 h0 => ?_)
  walk_at "vc"
  rw [h0]; refine s_l_plain_1 fun R1 h1 => ?_
  walk_at "vc"
  rw [h1]; refine s_l_plain_2 fun R2 h2 => ?_
  walk_at "vc"
  rw [h2]; refine s_l_plain_3 fun R3 h3 => ?_
  walk_at "vc"
  rw [h3]; refine s_l_plain_4 fun R4 h4 => ?_
  walk_at "vc"
  rw [h4]; refine s_l_plain_5 fun R5 h5 => ?_
  walk_at "vc"
  rw [h5]; refine s_l_plain_6 fun R6 h6 => ?_
  walk_at "vc"
  refine ⟨by omega, ?_⟩
  rw [f1]
  refine ⟨by simp, ?_⟩
  rw [h6]; unfold q_l_plain_7
  walk_at "vc"
  have erz : rz (few n bits) w (-v.1) (v.2) = R w (few n bits) (-v.1) 1 (v.2) := by unfold rz; rw [if_neg (by omega)]
  rw [erz]
  exact callI (l_round_ok hK (w := w) (num := -v.1) (den := 1) (power := v.2) (by omega) (by omega) (by decide) (by rw [bl_neg]; omega) (by decide)) (by decide) rfl
theorem plain_6 (hK : KK cx) {w : Way} {v x u : Int × Int} {n : Int} {bits : Nat} (hb : 1 ≤ bits) (hb2 : bits ≤ 32) (hv : Reg bits v) (hx : Reg bits x) (hu : Reg bits u) :
    CallOK cx 352 2 [.int 6, p2 v.1 v.2, p2 x.1 x.2, p2 u.1 u.2, .int n, .int bits, .str w.s] (.ok (p2 (rz (few n bits) w ((v.1.natAbs : Nat)) (v.2)).1 (rz (few n bits) w ((v.1.natAbs : Nat)) (v.2)).2)) := by
  obtain ⟨v1, v2, v3, v4⟩ := hv
  obtain ⟨x1, x2, x3, x4⟩ := hx
  obtain ⟨u1, u2, u3, u4⟩ := hu
  obtain ⟨f1, f2, f3⟩ := few_ok (n := n) hb
  refine w_l_plain hK rfl (s_l_plain fun R0 h0 => ?_)
  walk_at "vc"
  rw [h0]; refine s_l_plain_1 fun R1 h1 => ?_
  walk_at "vc"
  rw [h1]; refine s_l_plain_2 fun R2 h2 => ?_
  walk_at "vc"
  rw [h2]; refine s_l_plain_3 fun R3 h3 => ?_
  walk_at "vc"
  rw [h3]; refine s_l_plain_4 fun R4 h4 => ?_
  walk_at "vc"
  rw [h4]; refine s_l_plain_5 fun R5 h5 => ?_
  walk_at "vc"
  rw [h5]; refine s_l_plain_6 fun R6 h6 => ?_
  walk_at "vc"
  refine ⟨by omega, ?_⟩
  rw [f1]
  have habs : (if v.1 < 0 then -v.1 else v.1) = ((v.1.natAbs : Nat) : Int) := by split <;> omega
  rw [habs]
  refine ⟨by simp, ?_⟩
  rw [h6]; unfold q_l_plain_7
  walk_at "vc"
  have erz : rz (few n bits) w ((v.1.natAbs : Nat)) (v.2) = R w (few n bits) ((v.1.natAbs : Nat)) 1 (v.2) := by unfold rz; rw [if_neg (by omega)]
  rw [erz]
  exact callI (l_round_ok hK (w := w) (num := (v.1.natAbs : Nat)) (den := 1) (power := v.2) (by omega) (by omega) (by decide) (by rw [bl_natAbs]; omega) (by decide)) (by decide) rfl
theorem plain_7 (hK : KK cx) {w : Way} {v x u : Int × Int} {n : Int} {bits : Nat} (hb : 1 ≤ bits) (hb2 : bits ≤ 32) (hv : Reg bits v) (hx : Reg bits x) (hu : Reg bits u) :
    CallOK cx 352 2 [.int 7, p2 v.1 v.2, p2 x.1 x.2, p2 u.1 u.2, .int n, .int bits, .str w.s] (.ok (p2 (rz (few n bits) w (v.1) (v.2)).1 (rz (few n bits) w (v.1) (v.2)).2)) := by
  obtain ⟨v1, v2, v3, v4⟩ := hv
  obtain ⟨x1, x2, x3, x4⟩ := hx
  obtain ⟨u1, u2, u3, u4⟩ := hu
  obtain ⟨f1, f2, f3⟩ := few_ok (n := n) hb
  refine w_l_plain hK rfl (s_l_plain fun R0 h0 => ?_)
  walk_at "vc"
  rw [h0]; refine s_l_plain_1 fun R1 h1 => ?_
  walk_at "vc"
  rw [h1]; refine s_l_plain_2 fun R2 h2 => ?_
  walk_at "vc"
  rw [h2]; refine s_l_plain_3 fun R3 h3 => ?_
  walk_at "vc"
  rw [h3]; refine s_l_plain_4 fun R4 h4 => ?_
  walk_at "vc"
  rw [h4]; refine s_l_plain_5 fun R5 h5 => ?_
  walk_at "vc"
  rw [h5]; refine s_l_plain_6 fun R6 h6 => ?_
  walk_at "vc"
  refine ⟨by omega, ?_⟩
  rw [f1]
  refine ⟨by simp, ?_⟩
  rw [h6]; unfold q_l_plain_7
  walk_at "vc"
  have erz : rz (few n bits) w (v.1) (v.2) = R w (few n bits) (v.1) 1 (v.2) := by unfold rz; rw [if_neg (by omega)]
  rw [erz]
  exact callI (l_round_ok hK (w := w) (num := v.1) (den := 1) (power := v.2) (by omega) (by omega) (by decide) (by omega) (by decide)) (by decide) rfl
theorem plain_8 (hK : KK cx) {w : Way} {v x u : Int × Int} {n : Int} {bits : Nat} (hb : 1 ≤ bits) (hb2 : bits ≤ 32) (hv : Reg bits v) (hx : Reg bits x) (hu : Reg bits u) :
    CallOK cx 352 2 [.int 8, p2 v.1 v.2, p2 x.1 x.2, p2 u.1 u.2, .int n, .int bits, .str w.s] (.ok (p2 (rz (bits) w (v.1) (v.2 + (n.fmod 21 - 10))).1 (rz (bits) w (v.1) (v.2 + (n.fmod 21 - 10))).2)) := by
  obtain ⟨v1, v2, v3, v4⟩ := hv
  obtain ⟨x1, x2, x3, x4⟩ := hx
  obtain ⟨u1, u2, u3, u4⟩ := hu
  obtain ⟨f1, f2, f3⟩ := few_ok (n := n) hb
  refine w_l_plain hK rfl (s_l_plain fun R0 h0 => ?_)
  walk_at "vc"
  rw [h0]; refine s_l_plain_1 fun R1 h1 => ?_
  walk_at "vc"
  rw [h1]; refine s_l_plain_2 fun R2 h2 => ?_
  walk_at "vc"
  rw [h2]; refine s_l_plain_3 fun R3 h3 => ?_
  walk_at "vc"
  rw [h3]; refine s_l_plain_4 fun R4 h4 => ?_
  walk_at "vc"
  rw [h4]; refine s_l_plain_5 fun R5 h5 => ?_
  walk_at "vc"
  rw [h5]; refine s_l_plain_6 fun R6 h6 => ?_
  walk_at "vc"
  rw [show v.2 + n.fmod 21 - 10 = v.2 + (n.fmod 21 - 10) by omega]
  refine ⟨by simp, ?_⟩
  rw [h6]; unfold q_l_plain_7
  walk_at "vc"
  have erz : rz (bits) w (v.1) (v.2 + (n.fmod 21 - 10)) = R w (bits) (v.1) 1 (v.2 + (n.fmod 21 - 10)) := by unfold rz; rw [if_neg (by omega)]
  rw [erz]
  exact callI (l_round_ok hK (w := w) (num := v.1) (den := 1) (power := v.2 + (n.fmod 21 - 10)) (by omega) (by omega) (by decide) (by omega) (by decide)) (by decide) rfl
theorem plain_10 (hK : KK cx) {w : Way} {v x u : Int × Int} {n : Int} {bits : Nat} (hb : 1 ≤ bits) (hb2 : bits ≤ 32) (hv : Reg bits v) (hx : Reg bits x) (hu : Reg bits u) :
    CallOK cx 352 2 [.int 10, p2 v.1 v.2, p2 x.1 x.2, p2 u.1 u.2, .int n, .int bits, .str w.s] (.ok (p2 (rz (bits) w (sumN v.1 v.2 (-(whole .f v.1 v.2)) 0) (min v.2 0)).1 (rz (bits) w (sumN v.1 v.2 (-(whole .f v.1 v.2)) 0) (min v.2 0)).2)) := by
  obtain ⟨v1, v2, v3, v4⟩ := hv
  obtain ⟨x1, x2, x3, x4⟩ := hx
  obtain ⟨u1, u2, u3, u4⟩ := hu
  obtain ⟨f1, f2, f3⟩ := few_ok (n := n) hb
  refine w_l_plain hK rfl (s_l_plain fun R0 h0 => ?_)
  walk_at "vc"
  rw [h0]; refine s_l_plain_1 fun R1 h1 => ?_
  walk_at "vc"
  rw [h1]; refine s_l_plain_2 fun R2 h2 => ?_
  walk_at "vc"
  rw [h2]; refine s_l_plain_3 fun R3 h3 => ?_
  walk_at "vc"
  rw [h3]; refine s_l_plain_4 fun R4 h4 => ?_
  walk_at "vc"
  rw [h4]; refine s_l_plain_5 fun R5 h5 => ?_
  walk_at "vc"
  rw [h5]; refine s_l_plain_6 fun R6 h6 => ?_
  walk_at "vc"
  have hs := sumN_bl v.1 v.2 (-(whole .f v.1 v.2)) 0
  have hw := whole_bl2 (w := .f) (.inl rfl) (m := v.1) (e := v.2)
  have hn := bl_neg (whole .f v.1 v.2)
  refine callI (l_whole_ok hK (kind := 11) (.inl rfl) (by omega) (by omega)) (by decide) ?_
  rw [if_neg (by decide), if_neg (by decide)]
  walk_at "vc"
  refine ⟨by simp, callI (l_plus_ok hK (by omega) (by omega) (by omega) (by omega)) (by decide) ?_⟩
  rw [h6]; unfold q_l_plain_7
  walk_at "vc"
  have erz : rz (bits) w (sumN v.1 v.2 (-(whole .f v.1 v.2)) 0) (min v.2 0) = R w (bits) (sumN v.1 v.2 (-(whole .f v.1 v.2)) 0) 1 (min v.2 0) := by unfold rz; rw [if_neg (by omega)]
  rw [erz]
  exact callI (l_round_ok hK (w := w) (num := sumN v.1 v.2 (-(whole .f v.1 v.2)) 0) (den := 1) (power := min v.2 0) (by omega) (by omega) (by decide) (by omega) (by decide)) (by decide) rfl
theorem plain_11 (hK : KK cx) {w : Way} {v x u : Int × Int} {n : Int} {bits : Nat} (hb : 1 ≤ bits) (hb2 : bits ≤ 32) (hv : Reg bits v) (hx : Reg bits x) (hu : Reg bits u) :
    CallOK cx 352 2 [.int 11, p2 v.1 v.2, p2 x.1 x.2, p2 u.1 u.2, .int n, .int bits, .str w.s] (.ok (p2 (rz (bits) w (whole .f v.1 v.2) (0)).1 (rz (bits) w (whole .f v.1 v.2) (0)).2)) := by
  obtain ⟨v1, v2, v3, v4⟩ := hv
  obtain ⟨x1, x2, x3, x4⟩ := hx
  obtain ⟨u1, u2, u3, u4⟩ := hu
  obtain ⟨f1, f2, f3⟩ := few_ok (n := n) hb
  refine w_l_plain hK rfl (s_l_plain fun R0 h0 => ?_)
  walk_at "vc"
  rw [h0]; refine s_l_plain_1 fun R1 h1 => ?_
  walk_at "vc"
  rw [h1]; refine s_l_plain_2 fun R2 h2 => ?_
  walk_at "vc"
  rw [h2]; refine s_l_plain_3 fun R3 h3 => ?_
  walk_at "vc"
  rw [h3]; refine s_l_plain_4 fun R4 h4 => ?_
  walk_at "vc"
  rw [h4]; refine s_l_plain_5 fun R5 h5 => ?_
  walk_at "vc"
  rw [h5]; refine s_l_plain_6 fun R6 h6 => ?_
  walk_at "vc"
  have hw := whole_bl2 (w := .f) (.inl rfl) (m := v.1) (e := v.2)
  refine callI (l_whole_ok hK (kind := 11) (.inl rfl) (by omega) (by omega)) (by decide) ?_
  rw [if_neg (by decide), if_neg (by decide)]
  refine ⟨by simp, ?_⟩
  rw [h6]; unfold q_l_plain_7
  walk_at "vc"
  have erz : rz (bits) w (whole .f v.1 v.2) (0) = R w (bits) (whole .f v.1 v.2) 1 (0) := by unfold rz; rw [if_neg (by omega)]
  rw [erz]
  exact callI (l_round_ok hK (w := w) (num := whole .f v.1 v.2) (den := 1) (power := 0) (by omega) (by omega) (by decide) (by omega) (by decide)) (by decide) rfl
theorem plain_12 (hK : KK cx) {w : Way} {v x u : Int × Int} {n : Int} {bits : Nat} (hb : 1 ≤ bits) (hb2 : bits ≤ 32) (hv : Reg bits v) (hx : Reg bits x) (hu : Reg bits u) :
    CallOK cx 352 2 [.int 12, p2 v.1 v.2, p2 x.1 x.2, p2 u.1 u.2, .int n, .int bits, .str w.s] (.ok (p2 (rz (bits) w (whole .c v.1 v.2) (0)).1 (rz (bits) w (whole .c v.1 v.2) (0)).2)) := by
  obtain ⟨v1, v2, v3, v4⟩ := hv
  obtain ⟨x1, x2, x3, x4⟩ := hx
  obtain ⟨u1, u2, u3, u4⟩ := hu
  obtain ⟨f1, f2, f3⟩ := few_ok (n := n) hb
  refine w_l_plain hK rfl (s_l_plain fun R0 h0 => ?_)
  walk_at "vc"
  rw [h0]; refine s_l_plain_1 fun R1 h1 => ?_
  walk_at "vc"
  rw [h1]; refine s_l_plain_2 fun R2 h2 => ?_
  walk_at "vc"
  rw [h2]; refine s_l_plain_3 fun R3 h3 => ?_
  walk_at "vc"
  rw [h3]; refine s_l_plain_4 fun R4 h4 => ?_
  walk_at "vc"
  rw [h4]; refine s_l_plain_5 fun R5 h5 => ?_
  walk_at "vc"
  rw [h5]; refine s_l_plain_6 fun R6 h6 => ?_
  walk_at "vc"
  have hw := whole_bl2 (w := .c) (.inr (.inl rfl)) (m := v.1) (e := v.2)
  refine callI (l_whole_ok hK (kind := 12) (.inr (.inl rfl)) (by omega) (by omega)) (by decide) ?_
  rw [if_pos (by decide)]
  refine ⟨by simp, ?_⟩
  rw [h6]; unfold q_l_plain_7
  walk_at "vc"
  have erz : rz (bits) w (whole .c v.1 v.2) (0) = R w (bits) (whole .c v.1 v.2) 1 (0) := by unfold rz; rw [if_neg (by omega)]
  rw [erz]
  exact callI (l_round_ok hK (w := w) (num := whole .c v.1 v.2) (den := 1) (power := 0) (by omega) (by omega) (by decide) (by omega) (by decide)) (by decide) rfl
theorem plain_13 (hK : KK cx) {w : Way} {v x u : Int × Int} {n : Int} {bits : Nat} (hb : 1 ≤ bits) (hb2 : bits ≤ 32) (hv : Reg bits v) (hx : Reg bits x) (hu : Reg bits u) :
    CallOK cx 352 2 [.int 13, p2 v.1 v.2, p2 x.1 x.2, p2 u.1 u.2, .int n, .int bits, .str w.s] (.ok (p2 (rz (bits) w (whole .n v.1 v.2) (0)).1 (rz (bits) w (whole .n v.1 v.2) (0)).2)) := by
  obtain ⟨v1, v2, v3, v4⟩ := hv
  obtain ⟨x1, x2, x3, x4⟩ := hx
  obtain ⟨u1, u2, u3, u4⟩ := hu
  obtain ⟨f1, f2, f3⟩ := few_ok (n := n) hb
  refine w_l_plain hK rfl (s_l_plain fun R0 h0 => ?_)
  walk_at "vc"
  rw [h0]; refine s_l_plain_1 fun R1 h1 => ?_
  walk_at "vc"
  rw [h1]; refine s_l_plain_2 fun R2 h2 => ?_
  walk_at "vc"
  rw [h2]; refine s_l_plain_3 fun R3 h3 => ?_
  walk_at "vc"
  rw [h3]; refine s_l_plain_4 fun R4 h4 => ?_
  walk_at "vc"
  rw [h4]; refine s_l_plain_5 fun R5 h5 => ?_
  walk_at "vc"
  rw [h5]; refine s_l_plain_6 fun R6 h6 => ?_
  walk_at "vc"
  have hw := whole_bl2 (w := .n) (.inr (.inr rfl)) (m := v.1) (e := v.2)
  refine callI (l_whole_ok hK (kind := 13) (.inr (.inr rfl)) (by omega) (by omega)) (by decide) ?_
  rw [if_neg (by decide), if_pos (by decide)]
  refine ⟨by simp, ?_⟩
  rw [h6]; unfold q_l_plain_7
  walk_at "vc"
  have erz : rz (bits) w (whole .n v.1 v.2) (0) = R w (bits) (whole .n v.1 v.2) 1 (0) := by unfold rz; rw [if_neg (by omega)]
  rw [erz]
  exact callI (l_round_ok hK (w := w) (num := whole .n v.1 v.2) (den := 1) (power := 0) (by omega) (by omega) (by decide) (by omega) (by decide)) (by decide) rfl
theorem plain_14 (hK : KK cx) {w : Way} {v x u : Int × Int} {n : Int} {bits : Nat} (hb : 1 ≤ bits) (hb2 : bits ≤ 32) (hv : Reg bits v) (hx : Reg bits x) (hu : Reg bits u) :
    CallOK cx 352 2 [.int 14, p2 v.1 v.2, p2 x.1 x.2, p2 u.1 u.2, .int n, .int bits, .str w.s] (.ok (p2 (rz (bits) w (v.1 ^ (n.fmod 6).toNat) (v.2 * n.fmod 6)).1 (rz (bits) w (v.1 ^ (n.fmod 6).toNat) (v.2 * n.fmod 6)).2)) := by
  obtain ⟨v1, v2, v3, v4⟩ := hv
  obtain ⟨x1, x2, x3, x4⟩ := hx
  obtain ⟨u1, u2, u3, u4⟩ := hu
  obtain ⟨f1, f2, f3⟩ := few_ok (n := n) hb
  refine w_l_plain hK rfl (s_l_plain fun R0 h0 => ?_)
  walk_at "vc"
  rw [h0]; refine s_l_plain_1 fun R1 h1 => ?_
  walk_at "vc"
  rw [h1]; refine s_l_plain_2 fun R2 h2 => ?_
  walk_at "vc"
  rw [h2]; refine s_l_plain_3 fun R3 h3 => ?_
  walk_at "vc"
  rw [h3]; refine s_l_plain_4 fun R4 h4 => ?_
  walk_at "vc"
  rw [h4]; refine s_l_plain_5 fun R5 h5 => ?_
  walk_at "vc"
  rw [h5]; refine s_l_plain_6 fun R6 h6 => ?_
  walk_at "vc"
  have h1 : n.fmod 6 = n % 6 := Int.fmod_eq_emod_of_nonneg _ (by decide)
  obtain ⟨y, hy⟩ : ∃ y : Nat, n.fmod 6 = y := ⟨(n.fmod 6).toNat, by omega⟩
  rw [hy, Int.toNat_natCast]
  have hy5 : y ≤ 5 := by omega
  have hp := bl_pow_le v.1 y
  have hp2 := Nat.mul_le_mul (show bl v.1 ≤ 32 by omega) hy5
  have hp3 : (bl v.1 : Int) * y ≤ 160 := by
    have : ((bl v.1 * y : Nat) : Int) = (bl v.1 : Int) * y := by push_cast; rfl
    omega
  have by2 : bl (y : Int) ≤ 3 := bl_le.mpr (by omega)
  have be : bl v.2 ≤ 17 := bl_le.mpr (by omega)
  refine ⟨⟨by omega, by omega⟩, ⟨by omega, by omega⟩, by simp, ?_⟩
  rw [h6]; unfold q_l_plain_7
  walk_at "vc"
  have erz : rz (bits) w (v.1 ^ y) (v.2 * y) = R w (bits) (v.1 ^ y) 1 (v.2 * y) := by unfold rz; rw [if_neg (by omega)]
  rw [erz]
  exact callI (l_round_ok hK (w := w) (num := v.1 ^ y) (den := 1) (power := v.2 * y) (by omega) (by omega) (by decide) (by omega) (by decide)) (by decide) rfl
theorem plain_15 (hK : KK cx) {w : Way} {v x u : Int × Int} {n : Int} {bits : Nat} (hb : 1 ≤ bits) (hb2 : bits ≤ 32) (hv : Reg bits v) (hx : Reg bits x) (hu : Reg bits u) :
    CallOK cx 352 2 [.int 15, p2 v.1 v.2, p2 x.1 x.2, p2 u.1 u.2, .int n, .int bits, .str w.s] (.ok (p2 (rz (bits) w (v.1 * (n.fmod 2001 - 1000)) (v.2)).1 (rz (bits) w (v.1 * (n.fmod 2001 - 1000)) (v.2)).2)) := by
  obtain ⟨v1, v2, v3, v4⟩ := hv
  obtain ⟨x1, x2, x3, x4⟩ := hx
  obtain ⟨u1, u2, u3, u4⟩ := hu
  obtain ⟨f1, f2, f3⟩ := few_ok (n := n) hb
  refine w_l_plain hK rfl (s_l_plain fun R0 h0 => ?_)
  walk_at "vc"
  rw [h0]; refine s_l_plain_1 fun R1 h1 => ?_
  walk_at "vc"
  rw [h1]; refine s_l_plain_2 fun R2 h2 => ?_
  walk_at "vc"
  rw [h2]; refine s_l_plain_3 fun R3 h3 => ?_
  walk_at "vc"
  rw [h3]; refine s_l_plain_4 fun R4 h4 => ?_
  walk_at "vc"
  rw [h4]; refine s_l_plain_5 fun R5 h5 => ?_
  walk_at "vc"
  rw [h5]; refine s_l_plain_6 fun R6 h6 => ?_
  walk_at "vc"
  have h1 : n.fmod 2001 = n % 2001 := Int.fmod_eq_emod_of_nonneg _ (by decide)
  have hb9 : bl (n.fmod 2001 - 1000) ≤ 10 := bl_le.mpr (by omega)
  have hm := bl_mul v.1 (n.fmod 2001 - 1000)
  refine ⟨⟨by omega, by omega⟩, by simp, ?_⟩
  rw [h6]; unfold q_l_plain_7
  walk_at "vc"
  have erz : rz (bits) w (v.1 * (n.fmod 2001 - 1000)) (v.2) = R w (bits) (v.1 * (n.fmod 2001 - 1000)) 1 (v.2) := by unfold rz; rw [if_neg (by omega)]
  rw [erz]
  exact callI (l_round_ok hK (w := w) (num := v.1 * (n.fmod 2001 - 1000)) (den := 1) (power := v.2) (by omega) (by omega) (by decide) (by omega) (by decide)) (by decide) rfl
theorem plain_17 (hK : KK cx) {w : Way} {v x u : Int × Int} {n : Int} {bits : Nat} (hb : 1 ≤ bits) (hb2 : bits ≤ 32) (hv : Reg bits v) (hx : Reg bits x) (hu : Reg bits u) :
    CallOK cx 352 2 [.int 17, p2 v.1 v.2, p2 x.1 x.2, p2 u.1 u.2, .int n, .int bits, .str w.s] (.ok (p2 (rz (bits) w (sumN (sumN v.1 v.2 x.1 x.2) (min v.2 x.2) (sumN u.1 u.2 v.1 v.2) (min u.2 v.2)) (min (min v.2 x.2) (min u.2 v.2))).1 (rz (bits) w (sumN (sumN v.1 v.2 x.1 x.2) (min v.2 x.2) (sumN u.1 u.2 v.1 v.2) (min u.2 v.2)) (min (min v.2 x.2) (min u.2 v.2))).2)) := by
  obtain ⟨v1, v2, v3, v4⟩ := hv
  obtain ⟨x1, x2, x3, x4⟩ := hx
  obtain ⟨u1, u2, u3, u4⟩ := hu
  obtain ⟨f1, f2, f3⟩ := few_ok (n := n) hb
  refine w_l_plain hK rfl (s_l_plain fun R0 h0 => ?_)
  walk_at "vc"
  rw [h0]; refine s_l_plain_1 fun R1 h1 => ?_
  walk_at "vc"
  rw [h1]; refine s_l_plain_2 fun R2 h2 => ?_
  walk_at "vc"
  rw [h2]; refine s_l_plain_3 fun R3 h3 => ?_
  walk_at "vc"
  rw [h3]; refine s_l_plain_4 fun R4 h4 => ?_
  walk_at "vc"
  rw [h4]; refine s_l_plain_5 fun R5 h5 => ?_
  walk_at "vc"
  rw [h5]; refine s_l_plain_6 fun R6 h6 => ?_
  walk_at "vc"
  have s1 := sumN_bl v.1 v.2 x.1 x.2
  have s2 := sumN_bl u.1 u.2 v.1 v.2
  have s3 := sumN_bl (sumN v.1 v.2 x.1 x.2) (min v.2 x.2) (sumN u.1 u.2 v.1 v.2) (min u.2 v.2)
  refine callI (l_plus_ok hK (by omega) (by omega) (by omega) (by omega)) (by decide) ?_
  refine callI (l_plus_ok hK (by omega) (by omega) (by omega) (by omega)) (by decide) ?_
  refine callI (l_plus_ok hK (by omega) (by omega) (by omega) (by omega)) (by decide) ?_
  rw [h6]; unfold q_l_plain_7
  walk_at "vc"
  have erz : rz (bits) w (sumN (sumN v.1 v.2 x.1 x.2) (min v.2 x.2) (sumN u.1 u.2 v.1 v.2) (min u.2 v.2)) (min (min v.2 x.2) (min u.2 v.2)) = R w (bits) (sumN (sumN v.1 v.2 x.1 x.2) (min v.2 x.2) (sumN u.1 u.2 v.1 v.2) (min u.2 v.2)) 1 (min (min v.2 x.2) (min u.2 v.2)) := by unfold rz; rw [if_neg (by omega)]
  rw [erz]
  exact callI (l_round_ok hK (w := w) (num := sumN (sumN v.1 v.2 x.1 x.2) (min v.2 x.2) (sumN u.1 u.2 v.1 v.2) (min u.2 v.2)) (den := 1) (power := min (min v.2 x.2) (min u.2 v.2)) (by omega) (by omega) (by decide) (by omega) (by decide)) (by decide) rfl
theorem plain_18 (hK : KK cx) {w : Way} {v x u : Int × Int} {n : Int} {bits : Nat} (hb : 1 ≤ bits) (hb2 : bits ≤ 32) (hv : Reg bits v) (hx : Reg bits x) (hu : Reg bits u) :
    CallOK cx 352 2 [.int 18, p2 v.1 v.2, p2 x.1 x.2, p2 u.1 u.2, .int n, .int bits, .str w.s] (.ok (p2 (rz (bits) w (sumN (v.1 * x.1) (v.2 + x.2) u.1 u.2) (min (v.2 + x.2) u.2)).1 (rz (bits) w (sumN (v.1 * x.1) (v.2 + x.2) u.1 u.2) (min (v.2 + x.2) u.2)).2)) := by
  obtain ⟨v1, v2, v3, v4⟩ := hv
  obtain ⟨x1, x2, x3, x4⟩ := hx
  obtain ⟨u1, u2, u3, u4⟩ := hu
  obtain ⟨f1, f2, f3⟩ := few_ok (n := n) hb
  refine w_l_plain hK rfl (s_l_plain fun R0 h0 => ?_)
  walk_at "vc"
  rw [h0]; refine s_l_plain_1 fun R1 h1 => ?_
  walk_at "vc"
  rw [h1]; refine s_l_plain_2 fun R2 h2 => ?_
  walk_at "vc"
  rw [h2]; refine s_l_plain_3 fun R3 h3 => ?_
  walk_at "vc"
  rw [h3]; refine s_l_plain_4 fun R4 h4 => ?_
  walk_at "vc"
  rw [h4]; refine s_l_plain_5 fun R5 h5 => ?_
  walk_at "vc"
  rw [h5]; refine s_l_plain_6 fun R6 h6 => ?_
  walk_at "vc"
  have hm := bl_mul v.1 x.1
  have s3 := sumN_bl (v.1 * x.1) (v.2 + x.2) u.1 u.2
  refine ⟨⟨by omega, by omega⟩, by simp, callI (l_plus_ok hK (by omega) (by omega) (by omega) (by omega)) (by decide) ?_⟩
  rw [h6]; unfold q_l_plain_7
  walk_at "vc"
  have erz : rz (bits) w (sumN (v.1 * x.1) (v.2 + x.2) u.1 u.2) (min (v.2 + x.2) u.2) = R w (bits) (sumN (v.1 * x.1) (v.2 + x.2) u.1 u.2) 1 (min (v.2 + x.2) u.2) := by unfold rz; rw [if_neg (by omega)]
  rw [erz]
  exact callI (l_round_ok hK (w := w) (num := sumN (v.1 * x.1) (v.2 + x.2) u.1 u.2) (den := 1) (power := min (v.2 + x.2) u.2) (by omega) (by omega) (by decide) (by omega) (by decide)) (by decide) rfl
theorem plain_3 (hK : KK cx) {w : Way} {v x u : Int × Int} {n : Int} {bits : Nat} (hb : 1 ≤ bits) (hb2 : bits ≤ 32) (hv : Reg bits v) (hx : Reg bits x) (hu : Reg bits u) :
    CallOK cx 352 2 [.int 3, p2 v.1 v.2, p2 x.1 x.2, p2 u.1 u.2, .int n, .int bits, .str w.s] (.ok (if x.1 = 0 then .str (Str.ofString "over nothing") else p2 (quo w bits v.1 v.2 x.1 x.2).1 (quo w bits v.1 v.2 x.1 x.2).2)) := by
  obtain ⟨v1, v2, v3, v4⟩ := hv
  obtain ⟨x1, x2, x3, x4⟩ := hx
  obtain ⟨u1, u2, u3, u4⟩ := hu
  obtain ⟨f1, f2, f3⟩ := few_ok (n := n) hb
  refine w_l_plain hK rfl (s_l_plain fun R0 h0 => ?_)
  walk_at "vc"
  rw [h0]; refine s_l_plain_1 fun R1 h1 => ?_
  walk_at "vc"
  refine ⟨fun z => by rw [if_pos z], fun z => ?_⟩
  rw [if_neg z]
  rw [h1]; refine s_l_plain_2 fun R2 h2 => ?_
  walk_at "vc"
  rw [h2]; refine s_l_plain_3 fun R3 h3 => ?_
  walk_at "vc"
  have habs : (if x.1 < 0 then -x.1 else x.1) = ((x.1.natAbs : Nat) : Int) := by split <;> omega
  rw [habs]
  have hb9 : bl ((x.1.natAbs : Nat) : Int) ≤ 8000 := by rw [bl_natAbs]; omega
  refine ⟨fun z2 => callI (l_round_ok hK (w := w) (num := v.1) (den := x.1.natAbs) (power := v.2 - x.2) hb (by omega) (by omega) (by omega) hb9) (by decide) ?_, fun z2 => callI (l_round_ok hK (w := w) (num := -v.1) (den := x.1.natAbs) (power := v.2 - x.2) hb (by omega) (by omega) (by rw [bl_neg]; omega) hb9) (by decide) ?_⟩
  · unfold quo; rw [if_pos z2]; exact rfl
  · unfold quo; rw [if_neg z2]; exact rfl
theorem plain_9 (hK : KK cx) {w : Way} {v x u : Int × Int} {n : Int} {bits : Nat} (hb : 1 ≤ bits) (hb2 : bits ≤ 32) (hv : Reg bits v) (hx : Reg bits x) (hu : Reg bits u) :
    CallOK cx 352 2 [.int 9, p2 v.1 v.2, p2 x.1 x.2, p2 u.1 u.2, .int n, .int bits, .str w.s] (.ok (if v.1 < 0 then .str (Str.ofString "no root") else p2 (root w bits v.1 v.2).1 (root w bits v.1 v.2).2)) := by
  obtain ⟨v1, v2, v3, v4⟩ := hv
  obtain ⟨x1, x2, x3, x4⟩ := hx
  obtain ⟨u1, u2, u3, u4⟩ := hu
  obtain ⟨f1, f2, f3⟩ := few_ok (n := n) hb
  refine w_l_plain hK rfl (s_l_plain fun R0 h0 => ?_)
  walk_at "vc"
  rw [h0]; refine s_l_plain_1 fun R1 h1 => ?_
  walk_at "vc"
  rw [h1]; refine s_l_plain_2 fun R2 h2 => ?_
  walk_at "vc"
  refine ⟨fun z => by rw [if_pos z], fun z => ?_⟩
  rw [if_neg z]
  rw [h2]; refine s_l_plain_3 fun R3 h3 => ?_
  walk_at "vc"
  rw [h3]; refine s_l_plain_4 fun R4 h4 => ?_
  walk_at "vc"
  exact callI (l_root_ok hK (w := w) hb (by omega) v1 (by omega) (by omega) (by omega)) (by decide) rfl
theorem plain_16 (hK : KK cx) {w : Way} {v x u : Int × Int} {n : Int} {bits : Nat} (hb : 1 ≤ bits) (hb2 : bits ≤ 32) (hv : Reg bits v) (hx : Reg bits x) (hu : Reg bits u) :
    CallOK cx 352 2 [.int 16, p2 v.1 v.2, p2 x.1 x.2, p2 u.1 u.2, .int n, .int bits, .str w.s] (.ok (if v.1 = 0 then .str (Str.ofString "over nothing") else p2 (quo w bits (n.fmod 2001 - 1000) 0 v.1 v.2).1 (quo w bits (n.fmod 2001 - 1000) 0 v.1 v.2).2)) := by
  obtain ⟨v1, v2, v3, v4⟩ := hv
  obtain ⟨x1, x2, x3, x4⟩ := hx
  obtain ⟨u1, u2, u3, u4⟩ := hu
  obtain ⟨f1, f2, f3⟩ := few_ok (n := n) hb
  refine w_l_plain hK rfl (s_l_plain fun R0 h0 => ?_)
  walk_at "vc"
  rw [h0]; refine s_l_plain_1 fun R1 h1 => ?_
  walk_at "vc"
  have h1' : n.fmod 2001 = n % 2001 := Int.fmod_eq_emod_of_nonneg _ (by decide)
  have hc10 : bl (n.fmod 2001 - 1000) ≤ 10 := bl_le.mpr (by omega)
  refine ⟨fun z => by rw [if_pos z], fun z => ?_⟩
  rw [if_neg z]
  rw [h1]; refine s_l_plain_2 fun R2 h2 => ?_
  walk_at "vc"
  rw [h2]; refine s_l_plain_3 fun R3 h3 => ?_
  walk_at "vc"
  rw [h3]; refine s_l_plain_4 fun R4 h4 => ?_
  walk_at "vc"
  rw [h4]; refine s_l_plain_5 fun R5 h5 => ?_
  walk_at "vc"
  have habs : (if v.1 < 0 then -v.1 else v.1) = ((v.1.natAbs : Nat) : Int) := by split <;> omega
  rw [habs]
  have hb9 : bl ((v.1.natAbs : Nat) : Int) ≤ 8000 := by rw [bl_natAbs]; omega
  rw [show -v.2 = 0 - v.2 by omega]
  refine ⟨fun z2 => callI (l_round_ok hK (w := w) (num := n.fmod 2001 - 1000) (den := v.1.natAbs) (power := 0 - v.2) hb (by omega) (by omega) (by omega) hb9) (by decide) ?_, fun z2 => callI (l_round_ok hK (w := w) (num := -(n.fmod 2001 - 1000)) (den := v.1.natAbs) (power := 0 - v.2) hb (by omega) (by omega) (by rw [bl_neg]; omega) hb9) (by decide) ?_⟩
  · unfold quo; rw [if_pos z2]; exact rfl
  · unfold quo; rw [if_neg z2]; exact rfl
end Mine

namespace Mine
open PySem PySem.W PySem.Calls PyProof.Rows PySem.Spec
variable {cx : Cx}
local macro_rules | `(tactic| walk_at "vc") => `(tactic| simp only [tSeq, tSet, tIf, tRet, tSkip, tAug, tAssert, tBin, tTest, tName, tInt, tGlob, tStr, tBool, tNone, tTruth, tNotT, tTrue, tFalse, tAndT, tOrT, tIfE, tNeg, tNot, tOr, tAnd, tNil, tCons, tTup, tList, tSub, tDict, tBl, tB, tCall, tTypeIs, tIsInt, tUnpack, tUnpackR, tBrk, tCont, tRaise,
  slotQ, boolQ, truthQ, intQ, tupQ_tuple, listQ, strQ, subQ_t0, subQ_t1, subQ_l0, subQ_str, kI, kB, kAbs, kInt, kMin, kMax, kDivmod, setAll_cons, setAll_nil, outQ_ok, outQ_err, callPost_rt, callPost_nx, callPost_xx, turnP, kEq_int, kNe_int, kEq_n, kEq_f, kEq_c, kEq_u, kEq_p4, kNe_p4,
  List.getD_cons_zero, List.getD_cons_succ, List.set_cons_zero, List.set_cons_succ, valSlots, List.map_cons, List.map_nil, List.nil_append, List.cons_append, List.append_nil, List.replicate_succ, List.replicate_zero, List.length_cons, List.length_nil,
  true_and, and_true, bne_iff_ne, ne_eq, Bool.not_eq_true', Bool.not_eq_false', decide_eq_true_eq, decide_eq_false_iff_not, beq_iff_eq, beq_eq_false_iff_ne, bne_eq_false_iff_eq, Decidable.not_not, true_implies, Bool.true_eq_false, Bool.false_eq_true, false_implies, implies_true, not_true_eq_false, not_false_eq_true, reduceCtorEq, ok_inj, err_inj, Int.reduceEq, Int.reduceLT, Int.reduceLE, Int.reduceNeg, tupQ_mk, subQ_m0, subQ_m1, kEq_mk, sn_z, natAbs_z, natCast_z, kEq_mm, kNe_mm, bl_m1, bl_m2, bl_m3, Bool.and_false, Bool.false_and, Bool.not_false, Bool.not_true, Bool.and_true, Bool.true_and, Bool.and_eq_true, Bool.and_eq_false_iff])
inductive Res where
  | val (X : Int × Int)
  | zde
  | cplx
def Res.plain : Res → PyData
  | .val X => p2 X.1 X.2
  | .zde => .str (Str.ofString "over nothing")
  | .cplx => .str (Str.ofString "no root")
def Res.pack : Res → Except Exn PyData
  | .val X => .ok (mkr X)
  | .zde => .error .zde
  | .cplx => .error .cplx
def Res.good (bits : Nat) : Res → Prop
  | .val X => Odd0 X.1 X.2 ∧ bl X.1 ≤ bits ∧ -9000 ≤ X.2 ∧ X.2 ≤ 9000
  | _ => True
theorem rz_good {b bits : Nat} {w : Way} {num p : Int} (hb : 1 ≤ b) (hbb : b ≤ bits) (hb2 : bits ≤ 32) (hn : bl num ≤ 4000) (hp : -4000 ≤ p ∧ p ≤ 4000) : Res.good bits (.val (rz b w num p)) := by
  unfold rz; rw [if_neg (by omega)]
  have h1 := R_can (w := w) (bits := b) (n := num) (d := 1) (p := p) hb (by decide)
  have h2 := R_exp (w := w) (bits := b) (n := num) (d := 1) (p := p) hb (by decide)
  have b1 : bl ((1 : Nat) : Int) = 1 := by decide
  exact ⟨h1.1, by omega, by omega, by omega⟩
theorem quo_good {bits : Nat} {w : Way} {m e m' e' : Int} (hb : 1 ≤ bits) (hb2 : bits ≤ 32) (hm' : m' ≠ 0) (hn : bl m ≤ 4000) (hn' : bl m' ≤ 4000) (hp : -2000 ≤ e - e' ∧ e - e' ≤ 2000) : Res.good bits (.val (quo w bits m e m' e')) := by
  unfold quo
  have hb3 : bl (if 0 < m' then m else -m) ≤ 4000 := by split; exact hn; rw [bl_neg]; exact hn
  have h1 := R_can (w := w) (bits := bits) (n := if 0 < m' then m else -m) (d := m'.natAbs) (p := e - e') hb (by omega)
  have h2 := R_exp (w := w) (bits := bits) (n := if 0 < m' then m else -m) (d := m'.natAbs) (p := e - e') hb (by omega)
  rw [bl_natAbs] at h2
  exact ⟨h1.1, by omega, by omega, by omega⟩
theorem root_good {bits : Nat} {w : Way} {m e : Int} (hb : 1 ≤ bits) (hb2 : bits ≤ 32) (hn : bl m ≤ 32) (hp : -400 ≤ e ∧ e ≤ 400) : Res.good bits (.val (root w bits m e)) := by
  unfold root
  split
  · exact ⟨.inr ⟨rfl, rfl⟩, by rw [bl_zero]; omega, by decide, by decide⟩
  · unfold rootAt
    obtain ⟨l1, l2, l3⟩ := lawK_par bits m e
    have hs := (sqN_spec (m.natAbs * 2 ^ lawK bits m e)).1
    have hA : bl ((m.natAbs * 2 ^ lawK bits m e : Nat) : Int) ≤ 32 + 71 := by
      have := bl_shl (m.natAbs : Int) (lawK bits m e)
      rw [bl_natAbs] at this
      have e1 : ((m.natAbs * 2 ^ lawK bits m e : Nat) : Int) = (m.natAbs : Int) * 2 ^ lawK bits m e := by push_cast; rfl
      rw [e1]; omega
    generalize lawK bits m e = k at *
    generalize m.natAbs * 2 ^ k = A at *
    have hod : odd1 A (sqN A) ≤ 1 := by unfold odd1; split <;> decide
    generalize odd1 A (sqN A) = o at *
    have hL : sqN A ≤ A := by
      rcases Nat.eq_zero_or_pos (sqN A) with z | z
      · omega
      · have := Nat.le_mul_of_pos_left (sqN A) z; omega
    have hbL : bl ((2 * sqN A + o : Nat) : Int) ≤ 105 := by
      have h1 := bl_le.mp hA
      simp only [Int.natAbs_natCast] at h1
      refine bl_le.mpr ?_
      simp only [Int.natAbs_natCast]
      have e2 : 2 ^ 105 = 4 * 2 ^ (32 + 71) := by decide
      omega
    have h1 := R_can (w := w) (bits := bits) (n := ((2 * sqN A + o : Nat) : Int)) (d := 1) (p := (e - k) / 2 - 1) hb (by decide)
    have h2 := R_exp (w := w) (bits := bits) (n := ((2 * sqN A + o : Nat) : Int)) (d := 1) (p := (e - k) / 2 - 1) hb (by decide)
    have b1 : bl ((1 : Nat) : Int) = 1 := by decide
    exact ⟨h1.1, by omega, by omega, by omega⟩
theorem Res.plain_if {c : Prop} [Decidable c] {a b : Res} : Res.plain (if c then a else b) = if c then a.plain else b.plain := by split <;> rfl
theorem Res.pack_if {c : Prop} [Decidable c] {a b : Res} : Res.pack (if c then a else b) = if c then a.pack else b.pack := by split <;> rfl
theorem Res.good_if {c : Prop} [Decidable c] {a b : Res} {bits : Nat} (h1 : c → a.good bits) (h2 : ¬ c → b.good bits) : Res.good bits (if c then a else b) := by
  split
  · exact h1 ‹_›
  · exact h2 ‹_›

/-- the deed: the law's and the package's answers agree -/
theorem deed_ok (hK : KK cx) {w : Way} {v x u : Int × Int} {n kind : Int} {bits : Nat} (hb : 1 ≤ bits) (hb2 : bits ≤ 32) (hv : Reg bits v) (hx : Reg bits x) (hu : Reg bits u) (hk0 : 0 ≤ kind) (hk1 : kind < 19) (h4 : kind = 4 → x.1 ≠ 0) :
    ∃ r : Res, r.good bits ∧ CallOK cx 352 2 [.int kind, p2 v.1 v.2, p2 x.1 x.2, p2 u.1 u.2, .int n, .int bits, .str w.s] (.ok r.plain) ∧ CallOK cx 359 7 [.int kind, mkr v, mkr x, mkr u, .int n, .int bits, .str w.s] r.pack := by
  have hv' := hv
  have hx' := hx
  have hu' := hu
  obtain ⟨v1, v2, v3, v4⟩ := hv'
  obtain ⟨x1, x2, x3, x4⟩ := hx'
  obtain ⟨u1, u2, u3, u4⟩ := hu'
  obtain ⟨f1, f2, f3⟩ := few_ok (n := n) hb
  have hfm : n.fmod 2001 = n % 2001 := Int.fmod_eq_emod_of_nonneg _ (by decide)
  have hfm6 : n.fmod 6 = n % 6 := Int.fmod_eq_emod_of_nonneg _ (by decide)
  have hfm21 : n.fmod 21 = n % 21 := Int.fmod_eq_emod_of_nonneg _ (by decide)
  have hc10 : bl (n.fmod 2001 - 1000) ≤ 10 := bl_le.mpr (by omega)
  have cases19 : kind = 0 ∨ kind = 1 ∨ kind = 2 ∨ kind = 3 ∨ kind = 4 ∨ kind = 5 ∨ kind = 6 ∨ kind = 7 ∨ kind = 8 ∨ kind = 9 ∨ kind = 10 ∨ kind = 11 ∨ kind = 12 ∨ kind = 13 ∨ kind = 14 ∨ kind = 15 ∨ kind = 16 ∨ kind = 17 ∨ kind = 18 := by omega
  rcases cases19 with rfl | rfl | rfl | rfl | rfl | rfl | rfl | rfl | rfl | rfl | rfl | rfl | rfl | rfl | rfl | rfl | rfl | rfl | rfl
  · have := sumN_bl v.1 v.2 x.1 x.2
    exact ⟨.val _, rz_good hb (Nat.le_refl _) hb2 (by omega) (by omega), plain_0 hK hb hb2 hv hx hu, pack_0 hK hb hb2 hv hx hu⟩
  · have := sumN_bl v.1 v.2 (-x.1) x.2
    have hn := bl_neg x.1
    exact ⟨.val _, rz_good hb (Nat.le_refl _) hb2 (by omega) (by omega), plain_1 hK hb hb2 hv hx hu, pack_1 hK hb hb2 hv hx hu⟩
  · have := bl_mul v.1 x.1
    exact ⟨.val _, rz_good hb (Nat.le_refl _) hb2 (by omega) (by omega), plain_2 hK hb hb2 hv hx hu, pack_2 hK hb hb2 hv hx hu⟩
  · exact ⟨if x.1 = 0 then .zde else .val (quo w bits v.1 v.2 x.1 x.2), Res.good_if (fun _ => trivial) (fun z => quo_good hb hb2 z (by omega) (by omega) (by omega)), by rw [Res.plain_if]; exact plain_3 hK hb hb2 hv hx hu, by rw [Res.pack_if]; exact pack_3 hK hb hb2 hv hx hu⟩
  · have hx0 := h4 rfl
    refine ⟨.val (rest w bits v.1 v.2 x.1 x.2), ?_, plain_4 hK hb hb2 hv hx hu hx0, pack_4 hK hb hb2 hv hx hu hx0⟩
    have hB : x.1 * 2 ^ (x.2 - min v.2 x.2).toNat ≠ 0 := fun z => by
      rcases Int.mul_eq_zero.mp z with z | z
      · exact hx0 z
      · exact absurd z (Int.ne_of_gt (Int.pow_pos (by decide)))
    have b2 := bl_shl x.1 (x.2 - min v.2 x.2).toNat
    have b4 : bl ((v.1 * 2 ^ (v.2 - min v.2 x.2).toNat).fmod (x.1 * 2 ^ (x.2 - min v.2 x.2).toNat)) ≤ bl (x.1 * 2 ^ (x.2 - min v.2 x.2).toNat) := intBits_le_of_natAbs (natAbs_fmod_le _ _ hB) (Nat.le_refl _)
    exact rz_good hb (Nat.le_refl _) hb2 (by omega) (by omega)
  · have hn := bl_neg v.1
    exact ⟨.val _, rz_good f2 f3 hb2 (by omega) (by omega), plain_5 hK hb hb2 hv hx hu, pack_5 hK hb hb2 hv hx hu⟩
  · have hn := bl_natAbs v.1
    exact ⟨.val _, rz_good f2 f3 hb2 (by omega) (by omega), plain_6 hK hb hb2 hv hx hu, pack_6 hK hb hb2 hv hx hu⟩
  · exact ⟨.val _, rz_good f2 f3 hb2 (by omega) (by omega), plain_7 hK hb hb2 hv hx hu, pack_7 hK hb hb2 hv hx hu⟩
  · refine ⟨.val _, rz_good hb (Nat.le_refl _) hb2 (by omega) (by omega), plain_8 hK hb hb2 hv hx hu, ?_⟩
    have hp := pack_8 hK (w := w) (n := n) hb hb2 hv hx hu
    have e1 : (if v.1 = 0 then mkr v else mk v.1 (v.2 + (n.fmod 21 - 10))) = mkr (rz bits w v.1 (v.2 + (n.fmod 21 - 10))) := by
      by_cases z : v.1 = 0
      · have : v.2 = 0 := by rcases v1 with h | h <;> omega
        rw [if_pos z, z, rz_zero]; unfold mkr; rw [z, this]
      · rw [if_neg z, rz_self (.inl (by rcases v1 with h | h <;> omega)) (.inr v2)]
    rw [e1] at hp; exact hp
  · exact ⟨if v.1 < 0 then .cplx else .val (root w bits v.1 v.2), Res.good_if (fun _ => trivial) (fun z => root_good hb hb2 (by omega) (by omega)), by rw [Res.plain_if]; exact plain_9 hK hb hb2 hv hx hu, by rw [Res.pack_if]; exact pack_9 hK hb hb2 hv hx hu⟩
  · have hs := sumN_bl v.1 v.2 (-(whole .f v.1 v.2)) 0
    have hw := whole_bl2 (w := .f) (.inl rfl) (m := v.1) (e := v.2)
    have hn := bl_neg (whole .f v.1 v.2)
    exact ⟨.val _, rz_good hb (Nat.le_refl _) hb2 (by omega) (by omega), plain_10 hK hb hb2 hv hx hu, pack_10 hK hb hb2 hv hx hu⟩
  · have hw := whole_bl2 (w := .f) (.inl rfl) (m := v.1) (e := v.2)
    exact ⟨.val _, rz_good hb (Nat.le_refl _) hb2 (by omega) (by decide), plain_11 hK hb hb2 hv hx hu, pack_11 hK hb hb2 hv hx hu⟩
  · have hw := whole_bl2 (w := .c) (.inr (.inl rfl)) (m := v.1) (e := v.2)
    exact ⟨.val _, rz_good hb (Nat.le_refl _) hb2 (by omega) (by decide), plain_12 hK hb hb2 hv hx hu, pack_12 hK hb hb2 hv hx hu⟩
  · have hw := whole_bl2 (w := .n) (.inr (.inr rfl)) (m := v.1) (e := v.2)
    exact ⟨.val _, rz_good hb (Nat.le_refl _) hb2 (by omega) (by decide), plain_13 hK hb hb2 hv hx hu, pack_13 hK hb hb2 hv hx hu⟩
  · refine ⟨.val _, ?_, plain_14 hK hb hb2 hv hx hu, pack_14 hK hb hb2 hv hx hu⟩
    obtain ⟨y, hy⟩ : ∃ y : Nat, n.fmod 6 = y := ⟨(n.fmod 6).toNat, by omega⟩
    rw [hy, Int.toNat_natCast]
    have hy5 : y ≤ 5 := by omega
    have hp := bl_pow_le v.1 y
    have hp2 := Nat.mul_le_mul (show bl v.1 ≤ 32 by omega) hy5
    have hp3 : -2000 ≤ v.2 * (y : Int) ∧ v.2 * (y : Int) ≤ 2000 := by
      have : y = 0 ∨ y = 1 ∨ y = 2 ∨ y = 3 ∨ y = 4 ∨ y = 5 := by omega
      rcases this with h | h | h | h | h | h <;> subst h <;> omega
    exact rz_good hb (Nat.le_refl _) hb2 (by omega) (by omega)
  · have hm := bl_mul v.1 (n.fmod 2001 - 1000)
    exact ⟨.val _, rz_good hb (Nat.le_refl _) hb2 (by omega) (by omega), plain_15 hK hb hb2 hv hx hu, pack_15 hK hb hb2 hv hx hu⟩
  · exact ⟨if v.1 = 0 then .zde else .val (quo w bits (n.fmod 2001 - 1000) 0 v.1 v.2), Res.good_if (fun _ => trivial) (fun z => quo_good hb hb2 z (by omega) (by omega) (by omega)), by rw [Res.plain_if]; exact plain_16 hK hb hb2 hv hx hu, by rw [Res.pack_if]; exact pack_16 hK hb hb2 hv hx hu⟩
  · have s1 := sumN_bl v.1 v.2 x.1 x.2
    have s2 := sumN_bl u.1 u.2 v.1 v.2
    have s3 := sumN_bl (sumN v.1 v.2 x.1 x.2) (min v.2 x.2) (sumN u.1 u.2 v.1 v.2) (min u.2 v.2)
    refine ⟨.val _, rz_good hb (Nat.le_refl _) hb2 (by omega) (by omega), plain_17 hK hb hb2 hv hx hu, ?_⟩
    have hp := pack_17 hK (w := w) (n := n) hb hb2 hv hx hu
    have e1 : rz bits w (rowSum [v, x, u, v] (0, 0)).1 (rowSum [v, x, u, v] (0, 0)).2 = rz bits w (sumN (sumN v.1 v.2 x.1 x.2) (min v.2 x.2) (sumN u.1 u.2 v.1 v.2) (min u.2 v.2)) (min (min v.2 x.2) (min u.2 v.2)) := by
      have step : ∀ {B : Int} {a y : Int × Int}, B ≤ a.2 → B ≤ y.2 → B ≤ (if y.1 = 0 then a else (sumN a.1 a.2 y.1 y.2, min a.2 y.2)).2 ∧ atB B (if y.1 = 0 then a else (sumN a.1 a.2 y.1 y.2, min a.2 y.2)).1 (if y.1 = 0 then a else (sumN a.1 a.2 y.1 y.2, min a.2 y.2)).2 = atB B a.1 a.2 + atB B y.1 y.2 := by
        intro B a y h1 h2
        split
        · rename_i z
          refine ⟨h1, ?_⟩
          have : atB B y.1 y.2 = 0 := by unfold atB; rw [z, Int.zero_mul]
          rw [this, Int.add_zero]
        · exact ⟨by dsimp only; omega, atB_sum h1 h2⟩
      obtain ⟨a1, b1⟩ := step (B := -400) (a := (0, 0)) (y := v) (by decide) v3
      obtain ⟨a2, b2⟩ := step (y := x) a1 x3
      obtain ⟨a3, b3⟩ := step (y := u) a2 u3
      obtain ⟨a4, b4⟩ := step (y := v) a3 v3
      refine rz_at (B := -400) a4 (by omega) ?_
      rw [atB_sum (by omega) (by omega), atB_sum (by omega) (by omega), atB_sum (by omega) (by omega)]
      refine b4.trans ?_
      rw [b3, b2, b1]
      have : atB (-400) ((0 : Int), (0 : Int)).1 ((0 : Int), (0 : Int)).2 = 0 := by unfold atB; rw [Int.zero_mul]
      rw [this]; omega
    rw [e1] at hp; exact hp
  · have hm := bl_mul v.1 x.1
    have s3 := sumN_bl (v.1 * x.1) (v.2 + x.2) u.1 u.2
    exact ⟨.val _, rz_good hb (Nat.le_refl _) hb2 (by omega) (by omega), plain_18 hK hb hb2 hv hx hu, pack_18 hK hb hb2 hv hx hu⟩
end Mine

namespace Mine
open PySem PySem.W PySem.Calls PyProof.Rows PySem.Spec
variable {cx : Cx} {fc : Fc} {ns : List Str} {ρ : List Slot} {ads : List Addr} {σ : List (List PyData)} {s s' : Shared}

/-- what the standing fact says in this law: old objects, the one table that may grow, generators spent -/
structure KG (cx : Cx) (s₁ : Shared) (c P bm : Addr) : Prop where
  gi : ∀ w s, cx.GI w s ↔ (w = [] ∧ OldK s₁.heap s.heap ∧ s.os = s₁.os ∧ AllBare s.gens ∧ ∃ ps, s.heap.IsCode c P ps ∧ s.heap.TableAt c P ps)
  t0 : ∃ ps₀, s₁.heap.TableAt c P ps₀
  old : ∀ b o, s₁.heap.get? b = some o → b < cx.N
  mod : ∃ ob, s₁.heap.get? bm = some ob ∧ ob.cls = .type "module" ∧ ob.dict = some builtinsNs ∧ ob.data = .plain

theorem oldK_sub {h₀ h h' : Heap} (K : OldK h₀ h) (hk : ∀ b o, (h₀.get? b).isSome → h.get? b = some o → h'.get? b = some o) : OldK h₀ h' := by
  refine ⟨fun b o e => ?_, fun b o e => ?_⟩
  · have hs : (h₀.get? b).isSome := by rw [e]; rfl
    rcases K.old b o e with x | ⟨t, hc, vs, more, hv, x⟩ | ⟨rfl, hc, ⟨o', es, n, ho', r⟩, z⟩
    · exact .inl (hk _ _ hs x)
    · exact .inr (.inl ⟨t, hc, vs, more, hv, hk _ _ hs x⟩)
    · exact .inr (.inr ⟨rfl, hc, ⟨o', es, n, hk _ _ hs ho', r⟩, fun key => by rw [OldK.staticOf_congr ((hk _ _ hs ho').trans ho'.symm) key]; exact z key⟩)
  · obtain ⟨o', ho'⟩ := K.there b o e
    exact ⟨o', hk _ _ (by rw [e]; rfl) ho'⟩

def allIntQ (d : PyData) (Q : PyData → Prop) : Prop := match d with
  | .tuple ds => (∀ x ∈ ds, ∃ n, x = .int n) ∧ Q (.bool true)
  | _ => False
def tAllInt (i : Nat) : Tr := fun ρ _ Q _ => slotQ (ρ.getD i .undef) fun d => allIntQ d Q

theorem Rds.int_at {h : Heap} {X : List Addr} {us : List Value} {ds : List PyData} (r : Rds h X us ds) (hi : ∀ x ∈ ds, ∃ n, x = .int n) {i : Nat} {v : Value} (hv : us[i]? = some v) : ∃ n t, v = .int n t := by
  have hl := r.length
  have hlt : i < ds.length := by have := (List.getElem?_eq_some_iff.mp hv).1; omega
  obtain ⟨u, hu, ru⟩ := r.get i _ (List.getElem?_eq_getElem hlt)
  rw [hv] at hu; injection hu with hu; subst hu
  obtain ⟨n, hn⟩ := hi _ (List.getElem_mem hlt)
  rw [hn] at ru
  cases ru; exact ⟨_, _, rfl⟩

/-- the element's test, in the generator's own frame -/
theorem elt_ok {A' : Around} {E' : Value → Shared → Prop} {genv : Env} {t : Shared} {m₂ : Str → Option Value} {part : Str} {n : Int} {tk : Tok} {p1 p2 p3 p4 p5 : Pos}
    (hk : genv.scope.kind = .function) (hl : genv.scope.names.lookup part = some .local) (hty : genv.kindOf (Str.ofString "type") = some .globalImplicit) (hin : genv.kindOf (Str.ofString "int") = some .globalImplicit) (hglob : genv.globals = mainGlobals) (hbi : genv.builtins = builtinsNs)
    (hns : t.heap.Ns genv.locals m₂) (hm : m₂ part = some (.int n tk)) (hd : (part == ("__debug__" : Str)) = false)
    (hg : t.heap.Ns mainGlobals cx.mg) (hb : t.heap.Ns builtinsNs cx.mb) (hnt : cx.mg (Str.ofString "type") = none) (hni : cx.mg (Str.ofString "int") = none) (hbt : cx.mb (Str.ofString "type") = some (.type "type")) (hbin : cx.mb (Str.ofString "int") = some (.type "int"))
    (Q : Value → Shared → Prop) (hQ : Q (.bool true) t) :
    wpAny (model cx.prog cx.w) A' (eval (.Compare (.Call (.Name (Str.ofString "type") p1) [.Name part p2] [] p3) [.Is] [.Name (Str.ofString "int") p4] p5) genv) Q E' t := by
  refine wpAny_Compare1 (Call_ (Name_function_global hk hty (loadGlobal_builtin (by rw [hglob]; exact hg) hnt (by rw [hbi]; exact hb) hbt
    (PyProof.Rows.callWith_type1 (args_cons (wpAny_Name (wpAny_loadName_local hk hl hns hm ?_) hd) (by rfl)) (by rfl))) (by decide))) rfl
  refine args_nil (call_type_of (typeIs_int _ _ _) (by decide) ?_)
  refine Name_function_global hk hin (loadGlobal_builtin (by rw [hglob]; exact hg) hni (by rw [hbi]; exact hb) hbin ?_) (by decide)
  exact wpAny_is_plain rfl hQ

/-- facts of the frame's own def: its code and the module of built-ins -/
structure GD (cx : Cx) (fc : Fc) (c bm : Addr) : Prop where
  cd : fc.cd = .ref c
  nb : nsIn cx.K mainGlobals ("__builtins__" : Str) = some (some (.ref bm))
  ne : bm ≠ builtinsNs
  ty : nsIn cx.K mainGlobals (Str.ofString "type") = some none
  it : nsIn cx.K mainGlobals (Str.ofString "int") = some none
  al : nsIn cx.K mainGlobals (Str.ofString "all") = some none

theorem SE_allint {s₁ : Shared} {c P bm : Addr} (KG : KG cx s₁ c P bm) (D : GD cx fc c bm) {i : Nat} {raw part : Str} {p pr px p1 p2 p3 p4 p5 gpos pos : Pos} {scope : Scope}
    (hx : ns[i]? = some raw) (hal : fc.cs.names.lookup (Str.ofString "all") = some .globalImplicit)
    (hco : scope.isCoroutine = false) (hclos : closureFor scope fc.env = pure []) (hcell : ∀ y ∈ scope.names, y.2 ≠ .cell) (h0 : scope.names.lookup (".0" : Str) = some NameKind.local)
    (hxp : scope.names.lookup part = some .local) (hkind : scope.kind = .function) (hs : ∀ x, genFold (.Name raw pr) fc.env x = pure x) (hd : (raw == ("__debug__" : Str)) = false) (hdp : (part == ("__debug__" : Str)) = false)
    (hty : ∀ cl C code, (genEnv scope cl C code builtinsNs fc.env).kindOf (Str.ofString "type") = some .globalImplicit) (hin : ∀ cl C code, (genEnv scope cl C code builtinsNs fc.env).kindOf (Str.ofString "int") = some .globalImplicit)
    (h2 : starEach [Expr.GeneratorExp (.Compare (.Call (.Name (Str.ofString "type") p1) [.Name part p2] [] p3) [.Is] [.Name (Str.ofString "int") p4] p5) [⟨.Name part px, .Name raw pr, [], 0⟩] scope gpos] fc.env
      = (false, eval (.GeneratorExp (.Compare (.Call (.Name (Str.ofString "type") p1) [.Name part p2] [] p3) [.Is] [.Name (Str.ofString "int") p4] p5) [⟨.Name part px, .Name raw pr, [], 0⟩] scope gpos) fc.env) :: starEach [] fc.env) :
    SE cx fc ns (.Call (.Name (Str.ofString "all") p) [.GeneratorExp (.Compare (.Call (.Name (Str.ofString "type") p1) [.Name part p2] [] p3) [.Is] [.Name (Str.ofString "int") p4] p5) [⟨.Name part px, .Name raw pr, [], 0⟩] scope gpos] [] pos) (tAllInt i) := by
  intro ρ ads σ s Q X Q' E' F ht hQ hX
  obtain ⟨m, u, d, q1, q2, q3, q4⟩ := slot_get (Q := fun d => allIntQ d Q) F hx ht
  cases d <;> (try exact q3.elim)
  rename_i ds
  obtain ⟨hint, hq⟩ := q3
  refine Call_ (name_boot F hal D.al Boot.«all» (by decide) (by decide) (PyProof.Rows.callWith_builtin1 (args_cons ?_ h2) h2))
  have hroom : fc.A.depth < recursionLimit := by have := F.rmd; show fc.dp < _; omega
  refine wpAny_GeneratorExp_walksQD rfl hco hclos hcell h0 hxp hkind hroom ?_ hs
  refine wpAny_Name (wpAny_loadName_local F.hk (F.nsl raw (List.mem_of_getElem? hx)) q1 q2 ?_) hd
  cases q4 with
  | @tuple a o vs n xs ho hc hdd hax rs =>
  refine wpAny_pyIter_tuple ⟨o, ho, hc, n, hdd⟩ ?_
  have F₂ := F.push { cls := .type "tuple_iterator", data := .fields #[.ref a, .int 0 0] }
  obtain ⟨w, gw⟩ := F₂.gi
  obtain ⟨rfl, gK, gos, gbare, ps, gcode, gtab⟩ := (KG.gi _ _).mp gw
  refine ⟨F₂.top.nolimit, ?_⟩
  have hIN : cx.N ≤ s.heap.objs.size := F.lowN
  have haI : a ≠ s.heap.objs.size := Nat.ne_of_lt (Heap.lt_size ho)
  obtain ⟨obm, hbo, hbc, hbd, hbp⟩ := KG.mod
  have rest : ∀ (code : Value) (h₃ : Heap) (tk₃ : Nat), Heap.ExtBut P (s.heap.push { cls := .type "tuple_iterator", data := .fields #[.ref a, .int 0 0] }) h₃ → (s.heap.push { cls := .type "tuple_iterator", data := .fields #[.ref a, .int 0 0] }).objs.size ≤ h₃.objs.size →
      (∃ ps', h₃.IsCode c P ps' ∧ h₃.TableAt c P ps') → OldK s₁.heap h₃ →
      wpAny (model cx.prog cx.w) fc.A (builtinsFor fc.env.globals fc.env.builtins) (fun bi s₄ =>
        ∃ I fp wr n₀ Pi St₀ pz Fv, (Value.ref s.heap.objs.size) = .ref I ∧ (∀ A' : Around, A'.handled = none → Walks cx.prog cx.w A' I fp wr n₀ Pi St₀) ∧ St₀ 0 s₄.heap ∧ (∀ b ∈ fp, b < s₄.heap.objs.size) ∧ s₄.heap.NoLimit ∧ cStatics ∉ wr ∧
          (∀ href : Heap, (∀ b o, s₄.heap.get? b = some o → href.get? b = some o) →
            QuietGenD cx.prog cx.w (genEnv scope [] s₄.heap.objs.size code bi fc.env) part [] (.Compare (.Call (.Name (Str.ofString "type") p1) [.Name part p2] [] p3) [.Is] [.Name (Str.ofString "int") p4] p5) (List.range s₄.heap.objs.size) wr Pi pz Fv href (fc.A.depth + 1) (fc.A.units + 8)) ∧
          (∀ ga h₅ tk gs, gs.bare = true → s₄.heap.objs.size < ga → h₅.objs.size = ga + 1 → (∀ b o, s₄.heap.get? b = some o → h₅.get? b = some o) →
            WalksS cx.prog cx.w fc.A.in4 ga (ga :: s₄.heap.objs.size :: List.range s₄.heap.objs.size) (s₄.heap.objs.size :: wr) (GenOnlyQ s₄.gens.size) (passing pz n₀ 0).length
              (fun j y => ∃ i, (passing pz n₀ 0)[j]? = some i ∧ Fv i y) (GenAt cx.prog cx.w fc.A.in4 ga s₄.gens.size s₄.heap.objs.size (List.range s₄.heap.objs.size) wr pz n₀ Fv) →
            GenAt cx.prog cx.w fc.A.in4 ga s₄.gens.size s₄.heap.objs.size (List.range s₄.heap.objs.size) wr pz n₀ Fv 0 { s₄ with gens := s₄.gens.push gs, toks := tk, heap := h₅ } →
            (fun v s₅ => wpAny (model cx.prog cx.w) fc.A (spliced (backTo pos (starEach [] fc.env))) (fun vs s₆ => wpAny (model cx.prog cx.w) fc.A (call (.builtin "all") (v :: vs)) Q' E' s₆) E' s₅) (.ref ga) { s₄ with gens := s₄.gens.push gs, toks := tk, heap := h₅ })) E' { s with heap := h₃, toks := tk₃ } := by
    intro code h₃ tk₃ hx₃ hsz₃ hcod₃ hK₃
    have hP : s.heap.get? P = none ∨ True := .inr trivial
    have hX₃ : HX (s.heap.push { cls := .type "tuple_iterator", data := .fields #[.ref a, .int 0 0] }) h₃ := fun b o e => by
      by_cases hb : b = P
      · subst hb
        obtain ⟨ps', _, t'⟩ := hcod₃
        refine ⟨_, t'.2, fun hn _ => ?_⟩
        rw [gtab.2] at e; injection e with e; subst e
        exact absurd ⟨rfl, _, rfl⟩ hn
      · exact ⟨o, hx₃ b o hb e, fun _ _ => rfl⟩
    have g₃ : cx.GI [] { s with heap := h₃, toks := tk₃ } := (KG.gi _ _).mpr ⟨rfl, hK₃, gos, gbare, hcod₃⟩
    have F₃ : InFr cx fc ns ρ ads σ { s with heap := h₃, toks := tk₃ } := F₂.ev hX₃ ⟨[], g₃⟩
    have hsize₃ : s.heap.objs.size < h₃.objs.size := by rw [Heap.size_push] at hsz₃; omega
    refine wpAny_builtinsFor F₃.top.g (mg_of F₃.kin F₃.top.g D.nb) D.ne (hK₃.get_of_cls hbo (by rw [hbc]; nofun)) hbc hbd hbp ?_
    have hI₃ : h₃.get? s.heap.objs.size = some { cls := .type "tuple_iterator", data := .fields #[.ref a, .int 0 0] } := hX₃.get (Heap.get?_push_size _ rfl) (fun ⟨z, _⟩ => by cases z)
    have ha₃ : h₃.get? a = some o := hX₃.get (Heap.get?_push_of_some _ ho) (not_tb_seq hdd)
    refine ⟨s.heap.objs.size, [s.heap.objs.size, a], [s.heap.objs.size], vs.size, _, _, fun _ => true, fun i y => y = .bool true, rfl, fun A' hA => Walks.tuple hA _ a haI vs, ⟨⟨_, hI₃, rfl, rfl⟩, ⟨o, ha₃, hc, n, hdd⟩⟩, ?_, F₃.top.nolimit, ?_, ?_, ?_⟩
    · intro b hb
      simp only [List.mem_cons, List.not_mem_nil, or_false] at hb
      rcases hb with rfl | rfl
      · exact hsize₃
      · exact Heap.lt_size ha₃
    · intro hb
      rw [List.mem_singleton] at hb
      exact Nat.lt_irrefl _ (Nat.lt_of_lt_of_le (hb ▸ cx.tc) hIN)
    · intro href hhref
      refine ⟨fun A' E' i v t m₂ hA hD hU hPi hns hm hk => wpAny_pure ⟨rfl, ⟨_, _, rfl, fun _ _ e => e⟩⟩, fun A' E' i v t m₂ hA hD hU hPi _ hns hm hk => ?_⟩
      obtain ⟨nv, tkv, rfl⟩ := rs.int_at hint (i := i) (v := v) (by simpa using hPi)
      have keepN : ∀ b o, b < cx.N → h₃.get? b = some o → t.heap.get? b = some o := fun b o hb e => hk b (List.mem_range.mpr (Heap.lt_size e)) (fun hw => by rw [List.mem_singleton] at hw; exact Nat.lt_irrefl _ (Nat.lt_of_lt_of_le (hw ▸ hb) hIN)) o (hhref b o e)
      have nsk : ∀ {ad mm}, ad < cx.N → h₃.Ns ad mm → t.heap.Ns ad mm := fun hlt ⟨o, es, ep, a1, a2, a3⟩ => ⟨o, es, ep, keepN _ _ hlt a1, a2, a3⟩
      exact elt_ok (cx := cx) (genv := genEnv scope [] h₃.objs.size code builtinsNs fc.env) hkind hxp (hty _ _ _) (hin _ _ _) rfl rfl hns hm hdp (nsk cx.tg F₃.top.g) (nsk cx.tb F₃.top.b)
        (mg_none_of F₃.kin F₃.top.g D.ty) (mg_none_of F₃.kin F₃.top.g D.it) ((F₃.top.builtins _ (by decide)).trans Boot.«type») ((F₃.top.builtins _ (by decide)).trans Boot.«int») _ ⟨rfl, ⟨_, _, rfl, fun _ _ e => e⟩⟩
    · intro ga h₅ tk gs hgb hag hsz₅ hk₅ W hat
      refine args_nil ?_
      have W := W.in4_1
      have gI : s.heap.objs.size ≠ ga := by intro z; rw [← z] at hag; exact absurd hag (Nat.not_lt.mpr (Nat.le_of_lt hsize₃))
      have hpass : ∀ (n₀ k j i : Nat), (passing (fun _ => true) n₀ k)[j]? = some i → True := fun _ _ _ _ _ => trivial
      refine call_all_walkS (W.self 0 _ _ _ hat ⟨ga, _, _, _, _, _, _, fun _ => true, rfl, W, hat, fun j v t Q E hv hQ => ?_, fun s' hm => ?_⟩)
      · obtain ⟨i, _, rfl⟩ := hv
        exact wpAny_truthy_bool hQ
      · have htrue : ((List.range (passing (fun _ => true) vs.size 0).length).all fun _ => true) = true := by simp
        rw [htrue]
        have hkeep : ∀ b o, b < s.heap.objs.size → h₃.get? b = some o → s'.heap.get? b = some o := fun b o hb e => by
          refine hm.heap b o (fun hw => ?_) (hk₅ b o e)
          rcases List.mem_cons.mp hw with hw | hw
          · exact absurd (hw ▸ hb) (Nat.not_lt.mpr (Nat.le_of_lt hsize₃))
          · exact Nat.lt_irrefl _ ((List.mem_singleton.mp hw) ▸ hb)
        have hXs : HX s.heap s'.heap := fun b o e => by
          obtain ⟨o', h1, h2⟩ := hX₃ b o (Heap.get?_push_of_some _ e)
          exact ⟨o', hkeep b o' (Heap.lt_size e) h1, h2⟩
        have hold : ∀ b o, (s₁.heap.get? b).isSome → h₃.get? b = some o → s'.heap.get? b = some o := fun b o hs e => by
          cases z : s₁.heap.get? b with
          | none => rw [z] at hs; cases hs
          | some o₁ => exact hkeep b o (Nat.lt_of_lt_of_le (KG.old b o₁ z) hIN) e
        obtain ⟨ps', hc', ht'⟩ := hcod₃
        obtain ⟨ps₀, ht₀⟩ := KG.t0
        have hcs : c < s.heap.objs.size := by
          obtain ⟨⟨oc, vc, hoc, _⟩, _⟩ := ht₀
          exact Nat.lt_of_lt_of_le (KG.old _ _ hoc) hIN
        have hPs : P < s.heap.objs.size := Nat.lt_of_lt_of_le (KG.old _ _ ht₀.2) hIN
        have hic : s'.heap.IsCode c P ps' := by
          obtain ⟨o, vs, file, tf, flags, tg, inF, text, tt, op, a1, r1, r2, r3, r4, r5, r6, b1, r⟩ := hc'
          exact ⟨o, vs, file, tf, flags, tg, inF, text, tt, op, hkeep _ _ hcs a1, r1, r2, r3, r4, r5, r6, hkeep _ _ hPs b1, r⟩
        have hit : s'.heap.TableAt c P ps' := by
          obtain ⟨⟨oc, vc, hoc, r⟩, t⟩ := ht'
          exact ⟨⟨oc, vc, hkeep _ _ hcs hoc, r⟩, hkeep _ _ hPs t⟩
        have g' : cx.GI [] s' := (KG.gi _ _).mpr ⟨rfl, oldK_sub hK₃ hold, hm.os.trans gos, AllBare.moved (gbare.push hgb) hm.gens, ps', hic, hit⟩
        exact hQ _ _ _ hq (F.ev hXs ⟨[], g'⟩) hXs (.bool _)
  cases hcm : codeAmong gpos ps.toList with
  | none =>
    refine wpAny_genexprCodeX D.cd gcode gtab hcm fun c' h₃ tk₃ hx₃ hge hlt hcode₃ _ htab₃ _ => ?_
    obtain ⟨ps₀, ht₀⟩ := KG.t0
    have hPc : P ≠ cStatics := fun e => by
      obtain ⟨_, hns, _⟩ := F₂.top.nolimit
      obtain ⟨o, es, ep, ho, hd, _⟩ := hns
      rw [← e, gtab.2] at ho; cases ho; cases hd
    exact rest _ h₃ tk₃ hx₃ (Nat.le_trans hge (Nat.le_of_lt hlt)) ⟨_, hcode₃, htab₃⟩ (gK.step_table ht₀ gtab htab₃ hx₃ hPc)
  | some cv =>
    obtain ⟨o, vs', file, tf, flags, tg, inF, text, tt, op, a1, r1, r2, r3, r4, r5, r6, b1, b2, r⟩ := id gcode
    unfold genexprCode codeAt
    have hcd : fc.env.code = .ref c := D.cd
    rw [hcd, if_neg (show ¬ ((Value.ref c == Value.none) = true) from Bool.false_ne_true)]
    refine wpAny_bind (wpAny_fieldsOf a1 r1 ?_)
    rw [r2]
    refine wpAny_bind (wpAny_fieldsOf b1 b2 ?_)
    rw [hcm]
    exact wpAny_pure (rest cv _ s.toks (fun b o _ e => e) (Nat.le_refl _) ⟨ps, gcode, gtab⟩ gK)

theorem ST_typeIsNot {e : Expr} {t : Tr} {x : Str} {T : String} {p p₂ p₃ pos : Pos} (hx : fc.cs.names.lookup (Str.ofString "type") = some .globalImplicit) (hno : nsIn cx.K mainGlobals (Str.ofString "type") = some none)
    (hx' : fc.cs.names.lookup x = some .globalImplicit) (hno' : nsIn cx.K mainGlobals x = some none) (hb : bootBuiltins x = some (.type T)) (he : SE cx fc ns e t) (hn : x ≠ "__name__" := by decide) (hd : (x == ("__debug__" : Str)) = false := by decide)
    (h1 : starEach [e] fc.env = (false, eval e fc.env) :: starEach [] fc.env := by rfl) :
    ST cx fc ns (.Compare (.Call (.Name (Str.ofString "type") p) [e] [] p₂) [.IsNot] [.Name x p₃] pos) (tNotT (tTypeIs T t)) := fun _ _ _ _ _ _ _ _ F ht hQ hX => by
  refine wpAny_isTrue_Compare1 (Call_ (name_boot F hx hno Boot.«type» (by decide) (by decide) (PyProof.Rows.callWith_type1 (args_cons (he _ _ _ _ _ _ _ _ F ht (fun u d s₁ h₁ F₁ k₁ r₁ => ?_) hX) h1) h1)))
  refine args_nil (call_type_of (r₁.typeIs rfl) (tyName_ne d) ?_)
  refine name_boot F₁ hx' hno' hb hn hd (wpAny_isNot_plain rfl (wpAny_truthy_bool (hQ _ _ ?_ F₁ k₁)))
  rw [type_beq]; exact h₁
end Mine

namespace Mine
open PySem PySem.W PySem.Calls PyProof.Rows PySem.Spec
variable {cx : Cx}
def q_l_same_2 (cx : Cx) : Tx := tSeq (tRet (tAllInt 0))
  tSkip
def q_l_same_1 (cx : Cx) : Tx := tSeq (tIf (tOrT (tNotT (tTypeIs "tuple" (tName 0))) (tOrT (tTest (tBin kNe (tName 0) (tTup (tCons (tIfE (tTest (tBin kLt (tName 2) (tInt 0))) (tInt 1) (tInt 0)) (tCons (tB kAbs (tCons (tName 2) tNil)) (tCons (tName 3) (tCons (tBl (tB kAbs (tCons (tName 2) tNil))) tNil))))))) tFalse)) (tSeq (tRet (tBool false))
  tSkip)
  tSkip)
  (q_l_same_2 cx)
theorem s_l_same_1 {ρ σ P} (h : ∀ R : Tx, R = q_l_same_2 cx → tSeq (tIf (tOrT (tNotT (tTypeIs "tuple" (tName 0))) (tOrT (tTest (tBin kNe (tName 0) (tTup (tCons (tIfE (tTest (tBin kLt (tName 2) (tInt 0))) (tInt 1) (tInt 0)) (tCons (tB kAbs (tCons (tName 2) tNil)) (tCons (tName 3) (tCons (tBl (tB kAbs (tCons (tName 2) tNil))) tNil))))))) tFalse)) (tSeq (tRet (tBool false))
  tSkip)
  tSkip) R ρ σ P) : q_l_same_1 cx ρ σ P := h _ rfl
def q_l_same (cx : Cx) : Tx := tSeq (tUnpack [2, 3] (tName 1))
  (q_l_same_1 cx)
theorem s_l_same {ρ σ P} (h : ∀ R : Tx, R = q_l_same_1 cx → tSeq (tUnpack [2, 3] (tName 1)) R ρ σ P) : q_l_same cx ρ σ P := h _ rfl
abbrev ns_l_same : List Str := [Str.ofString "raw", Str.ofString "v", Str.ofString "m", Str.ofString "e"]
theorem w_l_same (hK : KK cx) {s₁ : Shared} {P : Addr} (G : KG cx s₁ 365 P 4) {args : List PyData} {out : Except Exn PyData} (hl : args.length = 2) (hvc : q_l_same cx (valSlots (args ++ []) 2) [] (callPost out)) : CallOK cx 366 0 args out := by
  refine call_okC (n := 2) (dfl := []) (tx := q_l_same cx) [Str.ofString "raw", Str.ofString "v"] ns_l_same [] hK rfl (by kernel_rfl) (fun us s hu hk => ?_) (fun _ _ _ _ => Rds.nil) (by rw [List.length_append, hl]; rfl) (fun i x h => ?_) (by decide +kernel) (by decide +kernel) rfl rfl rfl (by decide) (fun fc hcs hrk hcd => ?_) hvc
  · rw [hl] at hu
    obtain ⟨u0, u1, rfl⟩ := len_2 hu
    exact BindsTo.of_eq rfl
  · exact nth_sub (by decide +kernel) h
  · have l_abs : fc.cs.names.lookup (Str.ofString "abs") = some .globalImplicit := by rw [hcs]; rfl
    have l_type : fc.cs.names.lookup (Str.ofString "type") = some .globalImplicit := by rw [hcs]; rfl
    have l_tuple : fc.cs.names.lookup (Str.ofString "tuple") = some .globalImplicit := by rw [hcs]; rfl
    have l_all : fc.cs.names.lookup (Str.ofString "all") = some .globalImplicit := by rw [hcs]; rfl
    have D : GD cx fc 365 4 := ⟨hcd, by rw [hK]; kernel_rfl, by decide, n_type hK, n_int hK, n_all hK⟩
    exact (SX_cons (SX_unpack (xs := [Str.ofString "m", Str.ofString "e"]) (SE_name (i := 1) rfl) rfl (NameElts.cons (NameElts.cons NameElts.nil)) rfl rfl)
  (SX_cons (SX_if (ST_bool (STs_or_cons (ST_typeIsNot l_type (n_type hK) l_tuple (n_tuple hK) Boot.«tuple» (SE_name (i := 0) rfl)) (STs_or_cons (ST_cmp c_ne (SE_name (i := 0) rfl) (SE_tup (SEs_cons (SE_if (ST_cmp c_lt (SE_name (i := 2) rfl) SE_int rfl) SE_int SE_int) (SEs_cons (SE_bcall l_abs (n_abs hK) Boot.«abs» bc_abs (SEs_cons (SE_name (i := 2) rfl) SEs_nil)) (SEs_cons (SE_name (i := 3) rfl) (SEs_cons (SE_bl (SE_bcall l_abs (n_abs hK) Boot.«abs» bc_abs (SEs_cons (SE_name (i := 2) rfl) SEs_nil)) rfl rfl) SEs_nil))))) rfl) STs_or_nil))) (SX_cons (SX_ret SE_bool)
  SX_nil)
  SX_nil)
  (SX_cons (SX_ret (SE_allint G D (i := 0) rfl l_all rfl rfl (by decide) rfl rfl rfl (fun _ => rfl) (by decide) (by decide) (fun _ _ _ => rfl) (fun _ _ _ => rfl) rfl))
  SX_nil)))

end Mine

namespace Mine
open PySem PySem.W PySem.Calls PyProof.Rows PySem.Spec
variable {cx : Cx}
local macro_rules | `(tactic| walk_at "vc") => `(tactic| simp only [tSeq, tSet, tIf, tRet, tSkip, tAug, tAssert, tBin, tTest, tName, tInt, tGlob, tStr, tBool, tNone, tTruth, tNotT, tTrue, tFalse, tAndT, tOrT, tIfE, tNeg, tNot, tOr, tAnd, tNil, tCons, tTup, tList, tSub, tDict, tBl, tB, tCall, tTypeIs, tIsInt, tUnpack, tUnpackR, tBrk, tCont, tRaise,
  slotQ, boolQ, truthQ, intQ, tupQ_tuple, listQ, strQ, subQ_t0, subQ_t1, subQ_l0, subQ_str, kI, kB, kAbs, kInt, kMin, kMax, kDivmod, setAll_cons, setAll_nil, outQ_ok, outQ_err, callPost_rt, callPost_nx, callPost_xx, turnP, kEq_int, kNe_int, kEq_n, kEq_f, kEq_c, kEq_u, kEq_p4, kNe_p4,
  List.getD_cons_zero, List.getD_cons_succ, List.set_cons_zero, List.set_cons_succ, valSlots, List.map_cons, List.map_nil, List.nil_append, List.cons_append, List.append_nil, List.replicate_succ, List.replicate_zero, List.length_cons, List.length_nil,
  true_and, and_true, bne_iff_ne, ne_eq, Bool.not_eq_true', Bool.not_eq_false', decide_eq_true_eq, decide_eq_false_iff_not, beq_iff_eq, beq_eq_false_iff_ne, bne_eq_false_iff_eq, Decidable.not_not, true_implies, Bool.true_eq_false, Bool.false_eq_true, false_implies, implies_true, not_true_eq_false, not_false_eq_true, reduceCtorEq, ok_inj, err_inj, Int.reduceEq, Int.reduceLT, Int.reduceLE, Int.reduceNeg, tupQ_mk, subQ_m0, subQ_m1, kEq_mk, sn_z, natAbs_z, natCast_z, kEq_mm, kNe_mm, bl_m1, bl_m2, bl_m3, Bool.and_false, Bool.false_and, Bool.not_false, Bool.not_true, Bool.and_true, Bool.true_and, Bool.and_eq_true, Bool.and_eq_false_iff])
theorem same_ok (hK : KK cx) {s₁ : Shared} {P : Addr} (G : KG cx s₁ 365 P 4) {X : Int × Int} (hz : bl X.1 ≤ 2 ^ 20) : CallOK cx 366 0 [mkr X, p2 X.1 X.2] (.ok (.bool true)) := by
  refine w_l_same hK G rfl (s_l_same fun R0 h0 => ?_)
  walk_at "vc"
  rw [h0]; refine s_l_same_1 fun R1 h1 => ?_
  walk_at "vc"
  have hfin : R1 = q_l_same_2 cx → R1 [.val (mkr X), .val (p2 X.1 X.2), .val (.int X.1), .val (.int X.2)] [] (callPost (.ok (.bool true))) := by
    intro h1
    rw [h1]; unfold q_l_same_2 tSeq tRet tAllInt
    refine ⟨fun x hx => ?_, rfl⟩
    simp only [List.mem_cons, List.not_mem_nil, or_false] at hx
    rcases hx with rfl | rfl | rfl | rfl <;> exact ⟨_, rfl⟩
  have habs : (if X.1 < 0 then -X.1 else X.1) = ((X.1.natAbs : Nat) : Int) := by split <;> omega
  rw [habs, bl_natAbs]
  refine ⟨fun q => absurd rfl q, fun _ => ⟨fun z => ⟨by simp, ?_⟩, fun z => ⟨by simp, ?_⟩⟩⟩
  · have e1 : PyData.tuple [.int 1, .int (X.1.natAbs : Nat), .int X.2, .int (bl X.1 : Nat)] = mkr X := by
      show _ = p4 (sn X.1) _ _ _
      rw [show sn X.1 = 1 from if_pos z]
    rw [e1]
    unfold mkr
    rw [kNe_mm]
    refine ⟨fun q => absurd q (by simp), fun _ => hfin h1⟩
  · have e1 : PyData.tuple [.int 0, .int (X.1.natAbs : Nat), .int X.2, .int (bl X.1 : Nat)] = mkr X := by
      show _ = p4 (sn X.1) _ _ _
      rw [show sn X.1 = 0 from if_neg z]
    rw [e1]
    unfold mkr
    rw [kNe_mm]
    refine ⟨fun q => absurd q (by simp), fun _ => hfin h1⟩
end Mine

namespace Mine
open PySem PySem.W PySem.Calls PyProof.Rows PySem.Spec
variable {cx : Cx} {fc : Fc} {ns : List Str} {ρ : List Slot} {ads : List Addr} {σ : List (List PyData)} {s s' : Shared}
variable {e e₁ e₂ l r value slice iter : Expr} {es : List Expr} {t t₁ t₂ tl tr : Tr} {tt tt₁ tt₂ : Tt} {ts : Ts} {p pos apos : Pos} {k : Nat} {kk : PyData → PyData → (PyData → Prop) → Prop}
variable {st : Stmt} {sts body orelse : List Stmt} {tx tx₁ tx₂ : Tx}

/-- a change of some new records (iterators) -/
theorem InFr.touchL (F : InFr cx fc ns ρ ads σ s) {l : List Addr} (hl : ∀ it ∈ l, cx.N ≤ it ∧ it ∉ fc.fb ∧ ∃ oi vs, s.heap.get? it = some oi ∧ oi.data = .fields vs ∧ ¬ Cd oi)
    (hk : ∀ b o, b ∉ l → s.heap.get? b = some o → s'.heap.get? b = some o) (hos : s'.os = s.os) (hg : s'.gens = s.gens) : InFr cx fc ns ρ ads σ s' := by
  have ne : ∀ {b o}, s.heap.get? b = some o → (∀ vs, o.data ≠ .fields vs) → b ∉ l := fun {b o} ho hn q => by
    obtain ⟨_, _, oi, vs, h1, h2, _⟩ := hl b q
    rw [h1] at ho; injection ho with ho; subst ho; exact hn vs h2
  have rd : ∀ {u d}, Rd s.heap (fc.X ads) u d → Rd s'.heap (fc.X ads) u d := fun r => r.mono fun b o vs n ho hd hx => ⟨hk b o (ne ho fun vs q => by rw [hd] at q; cases q) ho, hx⟩
  have rds : ∀ {u d}, Rds s.heap (fc.X ads) u d → Rds s'.heap (fc.X ads) u d := fun r => r.mono fun b o vs n ho hd hx => ⟨hk b o (ne ho fun vs q => by rw [hd] at q; cases q) ho, hx⟩
  have nsk : ∀ {a m}, s.heap.Ns a m → s'.heap.Ns a m := fun ⟨o, es, ep, ho, hd, r⟩ => ⟨o, es, ep, hk _ _ (ne ho fun vs q => by rw [hd] at q; cases q) ho, hd, r⟩
  refine ⟨fun a o e => hk _ _ (fun q => absurd (hl a q).1 (Nat.not_le.mpr (cx.kb a o e).2)) (F.kin a o e), ?_, ?_, ?_, F.lN, ?_, ?_, fun x hx => ?_, F.nsl, F.nsd, F.hk, F.rmd, F.rmu⟩
  · have T := F.top
    obtain ⟨mc, h1, h2⟩ := T.nolimit
    exact ⟨nsk T.g, nsk T.b, ⟨mc, nsk h1, h2⟩, T.builtins, T.free⟩
  · obtain ⟨w, g⟩ := F.gi
    refine ⟨w, cx.stable _ _ _ g hos hg fun b o e hb => hk b o (fun q => ?_) e⟩
    obtain ⟨hN, _, oi, vs, h1, h2, h3⟩ := hl b q
    rcases hb with hb | hb
    · exact absurd hN (Nat.not_le.mpr (cx.ilt _ hb))
    · obtain ⟨o9, h9, h10⟩ := cx.whas _ _ _ g hb
      rw [h1] at h9; injection h9 with h9; subst h9; exact h3 h10
  · obtain ⟨m, h1, h2⟩ := F.env
    refine ⟨m, nsk h1, fun i x sl hi hr => ?_⟩
    have := h2 i x sl hi hr
    cases sl with
    | undef => trivial
    | val d => obtain ⟨u, h3, h4⟩ := this; exact ⟨u, h3, rd h4⟩
    | own k => exact this
  · refine ⟨F.own.1, F.own.2.1, fun k a ds h1 h2 => ?_⟩
    obtain ⟨h3, o, items, n, h4, h5, h5d, h6, h7⟩ := F.own.2.2 k a ds h1 h2
    exact ⟨h3, o, items, n, hk _ _ (ne h4 fun vs q => by rw [h6] at q; cases q) h4, h5, h5d, h6, rds h7⟩
  · exact F.frs.mono fun b o es n ho hd => ⟨o, hk _ _ (ne ho fun vs q => by rw [hd] at q; cases q) ho, rfl⟩
  · obtain ⟨h1, o, h2⟩ := F.fbs x hx
    exact ⟨h1, o, hk x o (fun q => (hl x q).2.1 hx) h2⟩

/-! truth of a list, list + list -/
def truthLQ (d : PyData) (Q : Bool → Prop) : Prop := match d with
  | .list xs => xs.length < 1000000 ∧ Q (!xs.isEmpty)
  | _ => False
def tTruthL (t : Tr) : Tt := fun ρ σ Q X => t ρ σ (fun d => truthLQ d Q) X
theorem ST_list (h : SE cx fc ns e t) (he : isTrue e fc.env (eval e fc.env) = (do let v ← eval e fc.env; standAt e.pos; holding [v] (truthy v)) := by rfl) : ST cx fc ns e (tTruthL t) :=
  fun _ _ _ _ _ _ _ _ F ht hQ hX => wpAny_isTrue_value (h _ _ _ _ _ _ _ _ F ht (fun u d s' hd F' k' r' => by
    cases d <;> (try exact hd.elim)
    cases r' with
    | @list a o vs n xs ho hc hdd hx rs =>
    rename_i ys
    have hsz : vs.size = ys.length := by simpa using rs.length
    refine wpAny_truthy_list ⟨o, ho, hc, n, hdd⟩ (by have := hd.1; omega) (hQ _ _ ?_ (F'.toks _) k')
    have e : vs.isEmpty = ys.isEmpty := by
      rw [Bool.eq_iff_iff, Array.isEmpty_iff_size_eq_zero, List.isEmpty_iff_length_eq_zero, hsz]
    rw [e]; exact hd.2) hX) he

/-! for a, b in enumerate(e) -/
def tForEnum (i j : Nat) (t : Tr) (b : Tx) : Tx := fun ρ σ P => t ρ σ (fun d => listQ d fun ds => ∃ I : Nat → List Slot → List (List PyData) → Prop, I 0 ρ σ ∧
  (∀ k d, ds[k]? = some d → ∀ ρ σ, I k ρ σ → b ((ρ.set i (.val (.int k))).set j (.val d)) σ (turnP P (I (k + 1)))) ∧ (∀ ρ σ, I ds.length ρ σ → P.nx ρ σ)) (fun x => P.xx x ρ σ)

theorem SX_forEnum {i j : Nat} {x y : Str} {p1 p2 p3 pt fpos : Pos} {kt : Nat} (hx : ns[i]? = some x) (hy : ns[j]? = some y) (hen : fc.cs.names.lookup (Str.ofString "enumerate") = some .globalImplicit) (hno : nsIn cx.K mainGlobals (Str.ofString "enumerate") = some none)
    (h : SE cx fc ns e t) (hb : SX cx fc ns body tx) (h1 : starEach [e] fc.env = (false, eval e fc.env) :: starEach [] fc.env := by rfl) (hs : ∀ x, foldedSetIterable (.Call (.Name (Str.ofString "enumerate") p3) [e] [] fpos) fc.env x = pure x := by intro _; rfl) :
    SX1 cx fc ns (.For (.Tuple [.Name x p1, .Name y p2] kt pt) (.Call (.Name (Str.ofString "enumerate") p3) [e] [] fpos) body [] pos) (tForEnum i j t tx) := fun ρ ads σ s P Q' E' F ht hQ hX => by
  refine PySem.wpAny_For (Call_ (name_boot F hen hno Boot.«enumerate» (by decide) (by decide) (PyProof.Rows.callWith_type1 (args_cons (h.inX F ht (fun u d s₀ hd F₀ k₀ r₀ => ?_) hX) h1) h1))) hs
  cases d <;> (try exact hd.elim)
  rename_i ds
  obtain ⟨I, h0, turn, fin⟩ := hd
  cases r₀ with
  | @list a o vs n xs hao hc hdd hax rs =>
  have hl : s₀.heap.IsList a vs := ⟨o, hao, hc, n, hdd⟩
  refine args_nil (call_enumerate_list hl fun h₁ hE hIt hsz₁ hk₁ => ?_)
  refine wpAny_pyIter_enum hE ?_
  have F₁ : InFr cx fc ns ρ ads σ { s₀ with heap := h₁ } := F₀.keep hk₁ rfl rfl
  have hN := F₀.lowN
  have hszv : vs.size = ds.length := by rw [← rs.length]; simp
  refine codeAny_forLoop_any (fun n s' => ∃ i' : Nat, n = ds.length + 1 - i' ∧ i' ≤ ds.length ∧ At cx fc ns ads s₀.heap (I i') s' ∧ (∃ old, IsEnum s'.heap (s₀.heap.objs.size + 1) s₀.heap.objs.size (i' : Int) old) ∧ s'.heap.IsListIter s₀.heap.objs.size a i') ?_ (ds.length + 1)
    ⟨0, rfl, Nat.zero_le _, ⟨ρ, ads, σ, h0, F₁, .refl _ _, HX.of_keep hk₁⟩, ⟨_, hE⟩, hIt⟩
  clear hE hIt F₁
  rintro n s₁ ⟨i', rfl, hi, ⟨ρ₁, ads₁, σ₁, hI, F₁, g₁, k₁⟩, ⟨old, hE⟩, hit⟩
  have hal : s₁.heap.IsList a vs := ⟨o, k₁.get hao (not_tb_seq hdd) fun q => hax (lx _ q), hc, _, hdd⟩
  have rs₁ : Rds s₁.heap (fc.X ads₁) vs.toList ds := rs.hs k₁ lx fun b hb q => by
    rcases List.mem_cons.mp q with rfl | q
    · exact .head _
    · rcases List.mem_append.mp q with q | q
      · rcases g₁ b q with z | z
        · exact .tail _ (List.mem_append_left _ z)
        · rw [z] at hb; cases hb
      · exact .tail _ (List.mem_append_right _ q)
  have kI : HS (fc.L :: ads) s.heap s₁.heap := k₀.toHS.trans k₁
  obtain ⟨oi, hoi, hci, hdi⟩ := id hit
  have f0 : s₀.heap.get? s₀.heap.objs.size = none := fresh0 (HS.refl _ _)
  have f1 : s₀.heap.get? (s₀.heap.objs.size + 1) = none := by
    cases z : s₀.heap.get? (s₀.heap.objs.size + 1) with
    | none => rfl
    | some o => exact absurd (Heap.lt_size z) (Nat.not_lt.mpr (Nat.le_succ _))
  have noFb : ∀ b ∈ [s₀.heap.objs.size + 1, s₀.heap.objs.size], b ∉ fc.fb := fun b hb q => by
    obtain ⟨_, o, ho⟩ := F₀.fbs b q
    simp only [List.mem_cons, List.not_mem_nil, or_false] at hb
    rcases hb with rfl | rfl
    · rw [f1] at ho; cases ho
    · rw [f0] at ho; cases ho
  have two : ∀ it ∈ [s₀.heap.objs.size + 1, s₀.heap.objs.size], cx.N ≤ it ∧ it ∉ fc.fb ∧ ∃ oi vs, s₁.heap.get? it = some oi ∧ oi.data = .fields vs ∧ ¬ Cd oi := fun it hit' => by
    refine ⟨?_, noFb it hit', ?_⟩
    · simp only [List.mem_cons, List.not_mem_nil, or_false] at hit'
      rcases hit' with rfl | rfl
      · exact Nat.le_succ_of_le hN
      · exact hN
    · simp only [List.mem_cons, List.not_mem_nil, or_false] at hit'
      rcases hit' with rfl | rfl
      · exact ⟨_, _, hE, rfl, not_cd (c := "enumerate") rfl (by decide)⟩
      · exact ⟨oi, _, hoi, hdi, not_cd hci (by decide)⟩
  cases hv : vs[i']? with
  | none =>
    have hii : i' = ds.length := by have : vs.size ≤ i' := by simpa using hv
                                    omega
    subst hii
    refine wpAny_pyNext_enum_end rfl hE hit hal hv fun h₂ he => PySem.wpAny_execs_nil ?_
    have F₂ : InFr cx fc ns ρ₁ ads₁ σ₁ { s₁ with heap := h₂ } := F₁.touchL two (fun b o hb e => he b o (fun q => hb (q ▸ .tail _ (.head _))) e) rfl rfl
    exact hQ .next _ ⟨_, _, _, fin _ _ hI, F₂, (Grow.refl _ _).trans k₀ g₁⟩ (HS.sb kI he (by
      cases z : s.heap.get? s₀.heap.objs.size with
      | none => rfl
      | some o => obtain ⟨o', h1, _⟩ := k₀ _ o z; rw [f0] at h1; cases h1))
  | some v =>
    have hlt2 : i' < vs.size := (Array.getElem?_eq_some_iff.mp hv).1
    refine wpAny_pyNext_enum_item hE hit hal hv (Nat.ne_of_gt (Nat.lt_succ_self _)) fun h₂ heo hit₂ ht₂ hz₂ hk₂ => ?_
    refine wpAny_letOwnedTupleGo_enum heo fun h₃ he₃ hs₃ => ?_
    have hk₃ : ∀ b o, b ∉ [s₀.heap.objs.size + 1, s₀.heap.objs.size] → s₁.heap.get? b = some o → h₃.get? b = some o := fun b o hb e => by
      simp only [List.mem_cons, List.not_mem_nil, or_false, not_or] at hb
      exact (hs₃.2 b hb.1).trans (hk₂ b o hb.1 hb.2 e)
    have F₃ : InFr cx fc ns ρ₁ ads₁ σ₁ { s₁ with heap := h₃, toks := s₁.toks + 1 } := F₁.touchL two hk₃ rfl rfl
    have tE : s₁.heap.objs.size ≠ s₀.heap.objs.size + 1 := Nat.ne_of_gt (Heap.lt_size hE)
    have tI : s₁.heap.objs.size ≠ s₀.heap.objs.size := Nat.ne_of_gt (Heap.lt_size hoi)
    have htup : h₃.get? s₁.heap.objs.size = some { cls := .type "tuple", data := .seq #[.int i' s₁.toks, v] } := (hs₃.2 _ tE).trans ht₂
    have hdk : ds[i']? = some (ds[i']'(by omega)) := List.getElem?_eq_getElem (by omega)
    obtain ⟨u, hu, ru⟩ := rs₁.get _ _ hdk
    have huv : u = v := by
      have : vs.toList[i']? = some v := by simpa using hv
      rw [hu] at this; exact Option.some.inj this
    subst huv
    have ru₃ : Rd h₃ (fc.X ads₁) u (ds[i']'(by omega)) := ru.mono fun b o vs n ho hd hx => ⟨hk₃ b o (fun q => by
      obtain ⟨_, _, oi2, vs2, a1, a2, _⟩ := two b q
      rw [ho] at a1; injection a1 with a1; subst a1; rw [hd] at a2; cases a2) ho, hx⟩
    have k₃ : HS (fc.L :: ads) s₀.heap h₃ := fun b o e => by
      obtain ⟨o', h1, h2⟩ := k₁ b o e
      refine ⟨o', hk₃ b o' (fun q => ?_) h1, h2⟩
      simp only [List.mem_cons, List.not_mem_nil, or_false] at q
      rcases q with rfl | rfl
      · rw [f1] at e; cases e
      · rw [f0] at e; cases e
    refine assign_Tuple_tuple (Q := fun _ s₂ => _) rfl ⟨_, htup, rfl, _, rfl⟩ rfl rfl fun h₄ he₄ => ?_
    have kk₄ : ∀ b o, h₃.get? b = some o → h₄.get? b = some o := fun b o e => he₄ b o (Nat.ne_of_lt (Heap.lt_size e)) e
    have F₄ : InFr cx fc ns ρ₁ ads₁ σ₁ { s₁ with heap := h₄, toks := s₁.toks + 1 } := F₃.keep (s' := { s₁ with heap := h₄, toks := s₁.toks + 1 }) kk₄ rfl rfl
    have rpair : Rds h₄ (fc.X ads₁) [.int i' s₁.toks, u] [.int i', ds[i']'(by omega)] := .cons (.int _ _) (.cons (ru₃.hx (HX.of_keep kk₄)) .nil)
    refine assign_all (NameElts.cons (NameElts.cons NameElts.nil)) [i, j] [.int i' s₁.toks, u] [.int i', ds[i']'(by omega)] (s := { s₁ with heap := h₄, toks := s₁.toks + 1 }) F₄ rfl (by simp [hx, hy]) rpair fun s₅ F₅ k₅ => ?_
    have k₄ : HS (fc.L :: ads) s₀.heap h₄ := k₃.trans (HX.toHS (HX.of_keep kk₄))
    have k₅' : HS (fc.L :: ads) s₀.heap s₅.heap := k₄.grow g₁ k₅
    refine turn_ok hb F₅ g₁ k₅' (turn i' _ hdk _ _ hI) (fun fl s₆ hfl hA k₆ => ?_) (fun s₆ hA => ?_) fun u s₆ hf k₆ => hQ _ _ (hf.pre k₀) (k₀.toHS.trans k₆)
    · have hE₄ : h₄.get? (s₀.heap.objs.size + 1) = some _ := kk₄ _ _ he₃
      obtain ⟨oi₂, hoi₂, hci₂, hdi₂⟩ := id hit₂
      have hoi₃ : h₃.get? s₀.heap.objs.size = some oi₂ := (hs₃.2 _ (Nat.ne_of_lt (Nat.lt_succ_self _))).trans hoi₂
      have hoi₄ := kk₄ _ _ hoi₃
      have stays : ∀ {b : Addr} {o : Obj} {vs : Array Value} {T : String}, h₄.get? b = some o → o.data = .fields vs → o.cls = .type T → s₆.heap.get? b = some o := by
        intro b o vs T hbo hbd hbc
        have hntb : ¬ Tb o := fun ⟨q, _⟩ => by rw [hbc] at q; cases q
        have hnm : b ∉ fc.L :: ads₁ := fun q => by
          rcases List.mem_cons.mp q with q | q
          · obtain ⟨m, ⟨o', es, ep, g1, g2, _⟩, _⟩ := F₄.env
            rw [← q] at g1
            have : o = o' := Option.some.inj (hbo.symm.trans g1)
            subst this; rw [hbd] at g2; cases g2
          · obtain ⟨_, o', _, _, g1, _, g2⟩ := F₄.own_mem q
            have : o = o' := Option.some.inj (hbo.symm.trans g1)
            subst this; rw [hbd] at g2; cases g2
        exact k₆.get (k₅.get hbo hntb hnm) hntb hnm
      have hE₆ := stays (T := "enumerate") hE₄ rfl rfl
      have hI₆ := stays (T := "list_iterator") hoi₄ hdi₂ hci₂
      have fin2 : ∃ m, m < ds.length + 1 - i' ∧ ∃ i'' : Nat, m = ds.length + 1 - i'' ∧ i'' ≤ ds.length ∧ At cx fc ns ads s₀.heap (I i'') s₆ ∧ (∃ old, IsEnum s₆.heap (s₀.heap.objs.size + 1) s₀.heap.objs.size (i'' : Int) old) ∧ s₆.heap.IsListIter s₀.heap.objs.size a i'' :=
        ⟨ds.length + 1 - (i' + 1), by omega, i' + 1, rfl, by omega, hA, ⟨_, by push_cast; exact hE₆⟩, ⟨_, hI₆, hci₂, hdi₂⟩⟩
      rcases hfl with rfl | rfl <;> exact fin2
    · obtain ⟨ρ₅, ads₅, σ₅, hn, F₆, g₆, k₇⟩ := hA
      exact hQ .next _ ⟨_, _, _, hn, F₆, (Grow.refl _ _).trans k₀ g₆⟩ (k₀.toHS.trans k₇)

/-! list + list -/
def kAddL : PyData → PyData → (PyData → Prop) → Prop
  | .list a, .list b, Q => a.length + b.length ≤ 1000 ∧ Q (.list (a ++ b))
  | _, _, _ => False
theorem b_addL : BinOK cx (binaryOp .Add) kAddL := by
  intro fc ns ρ ads σ s u v a b Q Q' E' F ra rb hk hQ
  cases a <;> (try exact hk.elim) <;> cases b <;> (try exact hk.elim)
  obtain ⟨hlen, hq⟩ := hk
  cases ra with
  | @list a₁ o₁ vs n xs ho hc hd hx rs =>
  cases rb with
  | @list a₂ o₂ ws n2 ys ho2 hc2 hd2 hx2 rs2 =>
  obtain ⟨cls, dd, data, sl⟩ := o₁
  obtain ⟨cls2, dd2, data2, sl2⟩ := o₂
  simp only at hc hd hc2 hd2
  subst hc hd hc2 hd2
  have l1 := rs.length
  have l2 := rs2.length
  rw [Array.length_toList] at l1 l2
  refine concat_meets ⟨_, ho, rfl⟩ ⟨_, ho2, rfl⟩ noFill_list_add seq_list_add PySem.F.slot_list_add PySem.F.entry_list_add (PySem.F.args_list_add_2 _ _) (list_addW a₁ a₂ vs ws n n2 dd dd2 sl sl2 (by rw [sizeLine_eq]; omega)) ⟨ho, ho2, ?_⟩
  have hkp : ∀ b o, s.heap.get? b = some o → (s.heap.push { cls := .type "list", data := .seq (vs ++ ws) }).get? b = some o := fun _ _ e => Heap.get?_push_of_some _ e
  refine hQ _ _ _ hq (F.push _) (HX.of_keep hkp) (.list (Heap.get?_push_size _ rfl) rfl rfl F.newX ?_)
  have := Rds.append rs2 rs
  rw [Array.toList_append]
  exact this.hx (HX.of_keep hkp)
end Mine

namespace Mine
open PySem PySem.W PySem.Calls PyProof.Rows PySem.Spec
variable {cx : Cx} {fc : Fc} {ns : List Str} {ρ : List Slot} {ads : List Addr} {σ : List (List PyData)} {s s' : Shared}
variable {e e₁ e₂ l r value slice iter : Expr} {es : List Expr} {t t₁ t₂ tl tr : Tr} {tt tt₁ tt₂ : Tt} {ts : Ts} {p pos apos : Pos} {k : Nat} {kk : PyData → PyData → (PyData → Prop) → Prop}
variable {st : Stmt} {sts body orelse : List Stmt} {tx tx₁ tx₂ : Tx}

/-! own lists -/
def ownQ (sl : Slot) (σ : List (List PyData)) (Q : Nat → List PyData → Prop) : Prop := match sl with
  | .own k => ∃ ds, σ[k]? = some ds ∧ Q k ds
  | _ => False
theorem own_get {i : Nat} {x : Str} {Q : Nat → List PyData → Prop} (F : InFr cx fc ns ρ ads σ s) (hx : ns[i]? = some x) (ht : ownQ (ρ.getD i .undef) σ Q) :
    ∃ m a k ds, s.heap.Ns fc.L m ∧ m x = some (.ref a) ∧ ads[k]? = some a ∧ σ[k]? = some ds ∧ Q k ds := by
  obtain ⟨m, h1, h2⟩ := F.env
  cases hr : ρ[i]? with
  | none => simp [List.getD, hr, ownQ] at ht
  | some sl =>
    have h3 := h2 i x sl hx hr
    cases sl with
    | undef => simp [List.getD, hr, ownQ] at ht
    | val d => simp [List.getD, hr, ownQ] at ht
    | own k =>
      simp only [List.getD, hr, Option.getD_some, ownQ] at ht
      obtain ⟨ds, h4, h5⟩ := ht
      obtain ⟨a, h6, h7⟩ := h3
      exact ⟨m, a, k, ds, h1, h6, h7, h4, h5⟩
def tOwnSub (i : Nat) (t : Tr) : Tr := fun ρ σ Q X => ownQ (ρ.getD i .undef) σ fun _ ds => t ρ σ (fun d => intQ d fun k => idxQ ds k Q) X
theorem SE_ownSub {i : Nat} {x : Str} (hx : ns[i]? = some x) (h : SE cx fc ns slice t) (hs : PlainSlice slice) (hd : (x == ("__debug__" : Str)) = false := by decide) : SE cx fc ns (.Subscript (.Name x p) slice pos) (tOwnSub i t) := by
  intro ρ ads σ s Q X Q' E' F ht hQ hX
  obtain ⟨m, a, k, ds, h1, h2, h3, h4, h5⟩ := own_get F hx ht
  refine Subscript_ (wpAny_Name (wpAny_loadName_local F.hk (F.nsl x (List.mem_of_getElem? hx)) h1 h2 ?_) hd)
  refine h _ _ _ _ _ _ _ _ F h5 (fun v d s₁ hq F₁ k₁ r₁ => ?_) hX
  cases d <;> (try exact hq.elim)
  rename_i kI
  cases r₁ with
  | int _ tk =>
  obtain ⟨_, o, items, n, a1, a2, a3, a4, a5⟩ := F₁.own.2.2 k a ds h3 h4
  obtain ⟨q0, q1, d, q2, q3⟩ := hq
  obtain ⟨u, hu, ru⟩ := a5.get _ _ q2
  exact tail_any (T := "list") ⟨_, a1, a2⟩ slot_list_getitem.lookup (wpAny_getItem_list ⟨o, a1, a2, n, a4⟩ q0 (by omega) (by simpa using hu) (hQ _ _ _ q3 F₁ k₁ ru)) (hs _ _)

theorem plain_of {h : Heap} {a : Addr} {o : Obj} {items : Array Value} {n : Nat} (h1 : h.get? a = some o) (h2 : o.cls = .type "list") (h3 : o.dict = none ∧ o.slots = #[]) (h4 : o.data = .seq items n) : h.get? a = some (listOf items n) := by
  obtain ⟨c, d, dt, sl⟩ := o
  obtain ⟨rfl, rfl⟩ : d = none ∧ sl = #[] := h3
  obtain rfl : c = _ := h2
  obtain rfl : dt = _ := h4
  exact h1
/-- an own list after a change of its items -/
theorem own_change {k : Nat} {a : Addr} {ds ds' : List PyData} {its' : Array Value} {h' : Heap} (F : InFr cx fc ns ρ ads σ s) (hk : ads[k]? = some a) (hσ : σ[k]? = some ds) (hp : h'.PlainList a its') (hs : Heap.SameBut a s.heap h')
    (hr : Rds s.heap (fc.X ads) its'.toList ds') : InFr cx fc ns ρ ads (σ.set k ds') { s with heap := h' } ∧ HS (fc.L :: ads) s.heap h' := by
  have ha : a ∈ ads := List.mem_of_getElem? hk
  have hHS : HS (fc.L :: ads) s.heap h' := fun b o e => by
    by_cases q : b = a
    · subst q
      obtain ⟨n, h1⟩ := hp
      exact ⟨_, h1, fun _ z => (z (.tail _ ha)).elim⟩
    · exact ⟨o, (hs.2 b q).trans e, fun _ _ => rfl⟩
  have hLa : fc.L ≠ a := fun q => by
    obtain ⟨m, ⟨o', es, ep, g1, g2, _⟩, _⟩ := F.env
    obtain ⟨_, o9, _, _, g3, _, g4⟩ := F.own_mem ha
    rw [q, g3] at g1; injection g1 with g1; subst g1; rw [g4] at g2; cases g2
  have sub : ∀ b ∈ fc.L :: ads, b ∈ fc.X ads := fun b hb => lx b hb
  refine ⟨F.re hHS (F.giS rfl rfl fun b o e q => (hs.2 b fun z => q (z ▸ .tail _ ha)).trans e) ?_ ?_, hHS⟩
  · obtain ⟨m, h1, h2⟩ := F.env
    refine ⟨m, ?_, fun i x sl hi hr => ?_⟩
    · obtain ⟨o, es, ep, ho, hd, r⟩ := h1
      exact ⟨o, es, ep, (hs.2 _ hLa).trans ho, hd, r⟩
    · have := h2 i x sl hi hr
      cases sl with
      | undef => trivial
      | val d => obtain ⟨u, h3, h4⟩ := this; exact ⟨u, h3, h4.hs hHS sub fun _ _ q => q⟩
      | own k => exact this
  · refine ⟨by rw [List.length_set]; exact F.own.1, F.own.2.1, fun k' a' ds₂ h1 h2 => ?_⟩
    by_cases hkk : k' = k
    · subst hkk
      rw [hk] at h1; injection h1 with h1; subst h1
      have hlt : k' < σ.length := (List.getElem?_eq_some_iff.mp hσ).1
      rw [List.getElem?_set_self hlt] at h2; injection h2 with h2; subst h2
      obtain ⟨n, g1⟩ := hp
      exact ⟨(F.own_mem ha).1, _, its', n, g1, rfl, ⟨rfl, rfl⟩, rfl, hr.hs hHS sub fun _ _ q => q⟩
    · rw [List.getElem?_set_ne (fun z => hkk z.symm)] at h2
      obtain ⟨h3, o, items, n, h4, h5, h5d, h6, h7⟩ := F.own.2.2 k' a' ds₂ h1 h2
      have hne : a' ≠ a := fun q => by
        subst q
        obtain ⟨b1, c1⟩ := List.getElem?_eq_some_iff.mp h1
        obtain ⟨b2, c2⟩ := List.getElem?_eq_some_iff.mp hk
        have pw := List.pairwise_iff_getElem.mp F.own.2.1
        rcases Nat.lt_or_gt_of_ne hkk with z | z
        · exact pw k' k b1 b2 z (c1.trans c2.symm)
        · exact pw k k' b2 b1 z (c2.trans c1.symm)
      exact ⟨h3, o, items, n, (hs.2 a' hne).trans h4, h5, h5d, h6, h7.hs hHS sub fun _ _ q => q⟩

def tAppend (i : Nat) (t : Tr) : Tx := fun ρ σ P => ownQ (ρ.getD i .undef) σ fun k ds => t ρ σ (fun d => ds.length ≤ 1000 ∧ P.nx ρ (σ.set k (ds ++ [d]))) (fun x => P.xx x ρ σ)
theorem SX_append {i : Nat} {x : Str} {elt : Expr} (hx : ns[i]? = some x) (h : SE cx fc ns elt t) (hd : (x == ("__debug__" : Str)) = false)
    (hbase : attributeBase (.Name x p) "append" fc.env (eval (.Name x p) fc.env) = eval (.Name x p) fc.env)
    (hfew : ((backTo pos (starEach [elt] fc.env)).all (fun x => !x.1) && (backToKw pos (keywordEach [] fc.env)).all (fun x => x.1.isSome)
      && decide (([elt] : List Expr).length + ([] : List Keyword).length + (if ([] : List Keyword).isEmpty then 0 else 1) < 30)) = true)
    (hline : (apos.endLine == pos.line) = true) (htrees : backTo pos (starEach [elt] fc.env) = [(false, eval elt fc.env)]) {epos : Pos} (hi : interactive fc.env = false) (hs : swapsWith (.Call (.Attribute (.Name x p) "append" apos) [elt] [] pos) none epos.line fc.env = pure false) :
    SX1 cx fc ns (.Expr (.Call (.Attribute (.Name x p) "append" apos) [elt] [] pos) epos) (tAppend i t) := by
  intro ρ ads σ s P Q' E' F ht hQ hX
  obtain ⟨m, a, k, ds, h1, h2, h3, h4, h5⟩ := own_get F hx ht
  refine wpAny_Expr (wpAny_Call_append hbase hfew hline htrees (wpAny_Name (wpAny_loadName_local F.hk (F.nsl x (List.mem_of_getElem? hx)) h1 h2 ?_) hd)) hi hs
  obtain ⟨_, o, items, n, a1, a2, a2d, a4, a5⟩ := F.own.2.2 k a ds h3 h4
  refine ⟨a, items, rfl, ⟨o, n, a1, a2, a2d.1, a4⟩, ?_⟩
  refine h.inX F h5 (fun u d s₁ hq F₁ k₁ r₁ => ?_) hX
  obtain ⟨_, o', items', n', b1, b2, b2d, b4, b5⟩ := F₁.own.2.2 k a ds h3 h4
  have hl := b5.length
  rw [Array.length_toList] at hl
  refine wpAny_list_append_plain ⟨n', plain_of b1 b2 b2d b4⟩ (fun h' hp hsb => ?_) (by rw [sizeLine_eq]; have := hq.1; omega)
  obtain ⟨F₂, k₂⟩ := own_change (ds' := ds ++ [d]) F₁ h3 h4 hp hsb (by rw [Array.toList_push]; exact Rds.append (.cons r₁ .nil) b5)
  exact hQ .next _ ⟨_, _, _, hq.2, F₂, .refl _ _⟩ ((HX.toHS k₁).trans k₂)
end Mine

namespace Mine
open PySem PySem.W PySem.Calls PyProof.Rows PySem.Spec
variable {cx : Cx} {fc : Fc} {ns : List Str} {ρ : List Slot} {ads : List Addr} {σ : List (List PyData)} {s s' : Shared}
variable {e e₁ e₂ l r value slice iter : Expr} {es : List Expr} {t t₁ t₂ tl tr : Tr} {tt tt₁ tt₂ : Tt} {ts : Ts} {p pos apos : Pos} {k : Nat} {kk : PyData → PyData → (PyData → Prop) → Prop}
variable {st : Stmt} {sts body orelse : List Stmt} {tx tx₁ tx₂ : Tx}

/-! an exception caught in its own frame -/
theorem note_firstW {M : Model} {A : Around} {E : Value → Shared → Prop} {base : Heap} {env : Env} {outer : List Env} {L e : Addr} {oe : Obj} {vs : Array Value} {a0 : Value} {Q : Unit → Shared → Prop}
    (hfr : A.frames = some (env :: outer)) (hl : s.heap.FunFrames base (env :: outer)) (hf : env.frame = some L)
    (he : s.heap.get? e = some oe) (hkb : base.StaysIn s.heap) (hen : base.get? e = none) (hd : oe.data = .fields vs) (h1 : vs[1]? = some .none) (h0 : vs[0]? = some a0)
    (h : ∀ h', Heap.LeftW base (env :: outer) e oe.cls a0 s.heap h' → Q () { s with heap := h' }) :
    wpAny M A (noteFrame (.ref e) env) (fun _ s' => wpAny M A (setFlight (.ref e) none) Q E s') E s := by
  unfold noteFrame
  simp only [hf]
  refine wpAny_bind (wpAny_field he hd h1 ?_)
  rw [if_neg (by decide)]
  exact wpAny_newEntryW hfr hl hf he hkb hen hd (Array.getElem?_eq_some_iff.mp h1).1 h0 h

theorem land_ok {x : Exn} {u : Value} {h₀ : Heap} {S : List Addr} {Q : Unit → Shared → Prop} {E} (F : InFr cx fc ns ρ ads σ s) (f : Flies cx fc x u h₀ S s)
    (hQ : ∀ s'', Gone cx (fc.env :: fc.outer) fc.fs x u h₀ S s.heap s'' → Q () s'') :
    wpAny (model cx.prog cx.w) fc.A (noteFrame u fc.env) (fun _ s₂ => wpAny (model cx.prog cx.w) fc.A (setFlight u none) Q E s₂) E s := by
  obtain ⟨e, w, rfl, fg, f1, f3, f2⟩ := f
  have hfs := F.frs.mem
  have hin : ∀ {l : List Env}, ∀ env ∈ l, ∀ a, env.frame = some a → a ∈ l.filterMap (·.frame) := fun env he a ha => List.mem_filterMap.mpr ⟨env, he, ha⟩
  rcases f2 with ⟨oe, t, h1, h2, h3, h4, h5⟩ | ⟨B, a0, h1, hw, h2⟩
  · have hnot : ∀ b o, s.heap.get? b = some o → (cx.I b ∨ b ∈ w) → b ∉ e :: fc.fs := fun b o hb hi q => by
      rcases List.mem_cons.mp q with rfl | q
      · rcases hi with hi | hi
        · exact h5 hi
        · obtain ⟨o9, h9, hc9⟩ := cx.whas _ _ _ fg hi
          rw [h1] at h9; injection h9 with h9; subst h9
          obtain ⟨hc9, _⟩ := hc9
          rcases hc9 with q | q <;> (rw [h2] at q; cases x <;> simp [Exn.cls] at q)
      · obtain ⟨hN, o', es, n, h6, h7⟩ := hfs b q
        rcases hi with hi | hi
        · exact absurd hN (Nat.not_le.mpr (cx.ilt _ hi))
        · obtain ⟨o9, h9, _, vs, hv⟩ := cx.whas _ _ _ fg hi
          rw [h6] at h9; injection h9 with h9; subst h9; rw [h7] at hv; cases hv
    have hef : e ∉ fc.fs := fun q => by
      obtain ⟨_, o', es, n, h6, h7⟩ := hfs e q
      rw [h1] at h6; injection h6 with h6; subst h6; rw [h3] at h7; cases h7
    refine note_firstW (base := hideAll s.heap (e :: fc.fs)) (a0 := t) rfl (F.frs.fun fun env he a ha => hideAll_none _ (.tail _ (hin env he a ha))) rfl h1 (fun b o hb => of_hideAll _ hb) (hideAll_none _ (.head _)) h3 rfl rfl fun h' hL => ?_
    obtain ⟨k1, k2, k3, k4⟩ := hL
    refine hQ _ ⟨e, w, _, t, rfl, cx.stable _ _ _ fg rfl rfl fun b o hb hi => k1 _ _ (hideAll_get _ hb (hnot b o hb hi)), ⟨k1, hideAll_none _ (.head _), k2, by rw [← h2]; exact k3⟩, fun b o hb hi => ?_, fun b o hb hnf => ?_, k4, fun b hb => ?_⟩
    · obtain ⟨o9, h9⟩ : ∃ o, s.heap.get? b = some o := by
        rcases hi with hi | hi
        · exact cx.ihas _ _ _ fg hi
        · obtain ⟨o, ho, _⟩ := cx.whas _ _ _ fg hi; exact ⟨o, ho⟩
      have h10 := hideAll_get (e :: fc.fs) h9 (hnot b o9 h9 hi)
      have h11 := k1 _ _ h10
      have : (some o9 : Option Obj) = some o := h11.symm.trans hb
      injection this with this; subst this; exact h10
    · obtain ⟨o', h6, h7⟩ := f1 b o hb
      refine ⟨o', hideAll_get _ h6 fun q => ?_, fun hn hs => h7 hn fun q => (List.mem_append.mp q).elim hs hnf⟩
      rcases List.mem_cons.mp q with rfl | q
      · rw [h4] at hb; cases hb
      · exact hnf q
    · cases q : h₀.get? b with
      | none => rw [q] at hb; cases hb
      | some o =>
        obtain ⟨o', h6, _⟩ := f1 b o q
        by_cases hbe : b ∈ e :: fc.fs
        · rcases List.mem_cons.mp hbe with rfl | hbe
          · rw [h4] at q; cases q
          · obtain ⟨_, o9, es, n, h8, h9⟩ := hfs b hbe
            obtain ⟨sl, h10⟩ := k4 b o9 h8 fun vs z => by rw [h9] at z; cases z
            show (h'.get? b).isSome = true
            rw [h10]; rfl
        · show (h'.get? b).isSome = true
          rw [k1 _ _ (hideAll_get _ h6 hbe)]; rfl
  · refine wpAny_looks_onW rfl rfl h1 fun h₁ y1 y2 => ?_
    refine wpAny_landsW y1 fun h' x1 x2' => ?_
    have x2 : s.heap.UpToSlots h' := y2.trans x2'
    have kk : ∀ b, (cx.I b ∨ b ∈ w) → ∀ o, s.heap.get? b = some o → h'.get? b = some o := fun b hi o hb => x1.1 _ _ (hw b o hb hi)
    refine hQ _ ⟨e, w, B, a0, rfl, cx.stable _ _ _ fg rfl rfl fun b o hb hi => kk b hi o hb, x1, fun b o hb hi => ?_, h2, x2, fun b hb => ?_⟩
    · obtain ⟨o9, h9⟩ : ∃ o, s.heap.get? b = some o := by
        rcases hi with hi | hi
        · exact cx.ihas _ _ _ fg hi
        · obtain ⟨o, ho, _⟩ := cx.whas _ _ _ fg hi; exact ⟨o, ho⟩
      have h10 := kk b hi o9 h9
      have : (some o9 : Option Obj) = some o := h10.symm.trans hb
      injection this with this; subst this
      exact hw b _ h9 hi
    · by_cases hbf : b ∈ fc.fs
      · obtain ⟨_, o9, es, n, h8, h9⟩ := hfs b hbf
        obtain ⟨sl, h10⟩ := x2 b o9 h8 fun vs z => by rw [h9] at z; cases z
        show (h'.get? b).isSome = true
        rw [h10]; rfl
      · cases q : h₀.get? b with
        | none => rw [q] at hb; cases hb
        | some o =>
          obtain ⟨o', h6, _⟩ := h2 b o q hbf
          show (h'.get? b).isSome = true
          rw [x1.1 _ _ h6]; rfl

/-- the frame after a flight that ended in it -/
theorem InFr.after {envs : List Env} {e : Addr} {w : List Addr} {B : Heap} {a0 cl : Value} {s'' : Shared} (F : InFr cx fc ns ρ ads σ s) (fg : cx.GI w s'') (hfl : Heap.FlyingW B envs e cl a0 s''.heap)
    (hB : ∀ b o, s.heap.get? b = some o → b ∉ fc.fs → ∃ o', B.get? b = some o' ∧ (¬ Tb o → o' = o))
    (hdict : ∀ b ∈ fc.fs, ∀ o es n, s.heap.get? b = some o → o.data = .dict es n → ∃ o', s''.heap.get? b = some o' ∧ o'.data = o.data) : InFr cx fc ns ρ ads σ s'' ∧ HS fc.fs s.heap s''.heap := by
  have hfs := F.frs.mem
  have hkp : ∀ b o, s.heap.get? b = some o → ¬ Tb o → b ∉ fc.fs → s''.heap.get? b = some o := fun b o hb hn hs => by
    obtain ⟨o', h1, h2⟩ := hB b o hb hs
    have := h2 hn
    subst this
    exact hfl.1 _ _ h1
  have hHS : HS fc.fs s.heap s''.heap := fun b o hb => by
    by_cases hbf : b ∈ fc.fs
    · obtain ⟨_, o9, es, n, h8, h9⟩ := hfs b hbf
      obtain ⟨o', h1, _⟩ := hdict b hbf o9 es n h8 h9
      exact ⟨o', h1, fun _ z => (z hbf).elim⟩
    · obtain ⟨o', h1, h2⟩ := hB b o hb hbf
      exact ⟨o', hfl.1 _ _ h1, fun hn _ => h2 hn⟩
  have hseq : ∀ b o vs n, s.heap.get? b = some o → o.data = .seq vs n → s''.heap.get? b = some o := fun b o vs n ho hd => hkp b o ho (not_tb_seq hd) fun q => by
    obtain ⟨_, o9, _, _, h9, h10⟩ := hfs b q
    rw [ho] at h9; injection h9 with h9; subst h9; rw [hd] at h10; cases h10
  have hlow2 : ∀ b o, b < cx.N → s.heap.get? b = some o → ¬ Tb o → s''.heap.get? b = some o := fun b o hb ho hn => hkp b o ho hn fun q => absurd (hfs b q).1 (Nat.not_le.mpr hb)
  have hns2 : ∀ {a m}, a < cx.N → s.heap.Ns a m → s''.heap.Ns a m := fun ha ⟨o, es, ep, h1, h2, h3⟩ => ⟨o, es, ep, hlow2 _ _ ha h1 (not_tb_dict h2), h2, h3⟩
  refine ⟨⟨fun a o e => hlow2 _ _ (cx.kb a o e).2 (F.kin a o e) (cx.kb a o e).1, ?_, ⟨w, fg⟩, ?_, F.lN, ⟨F.own.1, F.own.2.1, fun k a ds h1 h2 => ?_⟩, F.frs.mono'' hdict, fun x hx => ?_, F.nsl, F.nsd, F.hk, F.rmd, F.rmu⟩, hHS⟩
  · have T := F.top
    obtain ⟨mc, h1, h2⟩ := T.nolimit
    exact ⟨hns2 cx.tg T.g, hns2 cx.tb T.b, ⟨mc, hns2 cx.tc h1, h2⟩, T.builtins, T.free⟩
  · obtain ⟨m, ⟨o, es, ep, h1, h2, h3⟩, h4⟩ := F.env
    obtain ⟨o', h5, h6⟩ := hdict fc.L (.head _) o es ep h1 h2
    refine ⟨m, ⟨o', es, ep, h5, h6.trans h2, h3⟩, fun i x sl hi hr => ?_⟩
    have := h4 i x sl hi hr
    cases sl with
    | undef => trivial
    | val d => obtain ⟨u, h3, h4⟩ := this; exact ⟨u, h3, h4.mono fun b o vs n ho hd hx => ⟨hseq b o vs n ho hd, hx⟩⟩
    | own k => exact this
  · obtain ⟨h3, o, items, n, h4, h5, h5d, h6, h7⟩ := F.own.2.2 k a ds h1 h2
    exact ⟨h3, o, items, n, hseq _ _ _ _ h4 h6, h5, h5d, h6, h7.mono fun b o vs n ho hd hx => ⟨hseq b o vs n ho hd, hx⟩⟩
  · obtain ⟨h1, o, h2⟩ := F.fbs x hx
    obtain ⟨o', h3, _⟩ := hHS x o h2
    exact ⟨h1, o', h3⟩

/-- where a caught exception stands, while the frame goes on -/
def Held (cx : Cx) (fc : Fc) (ns : List Str) (ρ : List Slot) (ads : List Addr) (σ : List (List PyData)) (h₀ : Heap) (cl : Value) (e : Addr) (s'' : Shared) : Prop :=
  (∃ w B a0, cx.GI w s'' ∧ Heap.FlyingW B (fc.env :: fc.outer) e cl a0 s''.heap ∧ (∀ b o, s''.heap.get? b = some o → (cx.I b ∨ b ∈ w) → B.get? b = some o) ∧
    (∀ b o, h₀.get? b = some o → b ∉ fc.fs → ∃ o', B.get? b = some o' ∧ (¬ Tb o → o' = o)) ∧
    (∀ b ∈ fc.fs, ∀ o es n, h₀.get? b = some o → o.data = .dict es n → ∃ o', s''.heap.get? b = some o' ∧ o'.data = o.data)) ∧
  InFr cx fc ns ρ ads σ s'' ∧ HS fc.fs h₀ s''.heap

theorem held_of {x : Exn} {u : Value} {s'' : Shared} (F : InFr cx fc ns ρ ads σ s) (F' : InFr cx fc ns ρ ads σ s') (f : Flies cx fc x u s.heap [] s') (g : Gone cx (fc.env :: fc.outer) fc.fs x u s.heap [] s'.heap s'') :
    ∃ e, u = .ref e ∧ Held cx fc ns ρ ads σ s.heap (x.cls cx) e s'' := by
  obtain ⟨e, w, B, a0, rfl, fg, hfl, hw, hB, hup, hex⟩ := g
  have hB' : ∀ b o, s.heap.get? b = some o → b ∉ fc.fs → ∃ o', B.get? b = some o' ∧ (¬ Tb o → o' = o) := fun b o hb hn => by
    obtain ⟨o', h1, h2⟩ := hB b o hb hn
    exact ⟨o', h1, fun z => h2 z (fun q => nomatch q)⟩
  have hdict : ∀ b ∈ fc.fs, ∀ o es n, s.heap.get? b = some o → o.data = .dict es n → ∃ o', s''.heap.get? b = some o' ∧ o'.data = o.data := fun b hb o es n ho hd => by
    obtain ⟨_, _, _, _, _, f3, _⟩ := f
    obtain ⟨o', h1, h2⟩ := f3 b hb (fun q => nomatch q) o es n ho hd
    obtain ⟨sl, h3⟩ := hup b o' h1 fun vs z => by rw [h2, hd] at z; cases z
    exact ⟨_, h3, h2⟩
  obtain ⟨F₂, k₂⟩ := F.after fg hfl hB' hdict
  exact ⟨e, rfl, ⟨w, B, a0, fg, hfl, hw, hB', hdict⟩, F₂, k₂⟩

theorem Held.look {e : Addr} {cl : Value} {h₀ : Heap} {s'' : Shared} (H : Held cx fc ns ρ ads σ h₀ cl e s'') : Looks (model cx.prog cx.w) s''.heap (typeOf (.ref e)) cl := by
  obtain ⟨⟨w, B, a0, fg, hfl, _⟩, _⟩ := H
  obtain ⟨ob, hob, hc⟩ := hfl.there
  subst hc
  exact (Looks.ld hob).andThen .now

/-- the clause does not fit -/
theorem clause_not {e : Addr} {cl c : Value} {nm : Expr} {b₀ : Stmt} {suite : List Stmt} {rest : List ExceptHandler} {s'' : Shared} {h₀ : Heap} {Q : Flow → Shared → Prop} {E}
    (H : Held cx fc ns ρ ads σ h₀ cl e s'') (m : exmOne cx.K cl c = some false) (hn : ∀ (A : Around) (Q : Value → Shared → Prop) E, Q c s'' → wpAny (model cx.prog cx.w) A (eval nm fc.env) Q E s'')
    (h : wpAny (model cx.prog cx.w) fc.A (handleBy (.ref e) fc.env rest) Q E s'') :
    wpAny (model cx.prog cx.w) fc.A (handleBy (.ref e) fc.env (.ExceptHandler (some nm) none (b₀ :: suite) pos :: rest)) Q E s'' := by
  refine wpAny_handleBy_cons (codeAny_handlers_test (hn _ _ _ ?_)) (by intro q; cases q)
  exact (exm_one H.2.1.kin H.look m).here h

/-- the clause fits: the suite stores a text -/
theorem clause_hit {e : Addr} {cl c : Value} {nm : Expr} {i : Nat} {x : Str} {s1 : Str} {px pc ps : Pos} {kc : Nat} {rest : List ExceptHandler} {s'' : Shared} {Q : Flow → Shared → Prop} {E}
    (F : InFr cx fc ns ρ ads σ s) (H : Held cx fc ns ρ ads σ s.heap cl e s'') (m : exmOne cx.K cl c = some true) (hn : ∀ (A : Around) (Q : Value → Shared → Prop) E, Q c s'' → wpAny (model cx.prog cx.w) A (eval nm fc.env) Q E s'')
    (hx : ns[i]? = some x) (hs : swapsWith (.Constant (.str s1) kc pc) (some (.Name x px)) ps.line fc.env = pure false)
    (h : ∀ s₃, InFr cx fc ns (ρ.set i (.val (.str s1))) ads σ s₃ → HS (fc.L :: (ads ++ fc.fs)) s.heap s₃.heap → Q .next s₃) :
    wpAny (model cx.prog cx.w) fc.A (handleBy (.ref e) fc.env (.ExceptHandler (some nm) none [.Assign [.Name x px] (.Constant (.str s1) kc pc) ps] pos :: rest)) Q E s'' := by
  refine wpAny_handleBy_cons (codeAny_handlers_test (hn _ _ _ ?_)) (by intro q; cases q)
  refine (exm_one H.2.1.kin H.look m).here ?_
  refine codeAny_handlers_suite ?_
  obtain ⟨⟨w, B, a0, fg, hfl, hw, hB, hdict⟩, F₂, k₂⟩ := H
  refine lands_againW hfl fun h₆ hfl₆ hup₆ => ?_
  have hG : cx.GI w { s'' with heap := h₆ } := cx.stable _ _ _ fg rfl rfl fun b o hb hi => hfl₆.1 _ _ (hw b o hb hi)
  obtain ⟨F₆, k₆⟩ := F.after hG hfl₆ hB fun b hb o es n ho hd => by
    obtain ⟨o', h1, h2⟩ := hdict b hb o es n ho hd
    obtain ⟨sl, h3⟩ := hup₆ b o' h1 fun vs z => by rw [h2, hd] at z; cases z
    exact ⟨_, h3, h2⟩
  refine PySem.wpAny_execs_cons (PySem.wpAny_Assign_Name (wpAny_Constant_str ?_) hs)
  refine store_val (F₆.toks _) hx (.str _ _) fun s₃ F₃ k₃ => PySem.wpAny_execs_nil (h _ F₃ ?_)
  refine HS.trans (k₆.mono fun b _ hb => .tail _ (List.mem_append_right _ hb)) (HS.mono k₃ fun b _ hb => ?_)
  rcases List.mem_cons.mp hb with rfl | hb
  · exact .head _
  · exact .tail _ (List.mem_append_left _ hb)

/-- a call tried, two clauses that store texts -/
def tTry2 (i : Nat) (t : Tr) (s1 s2 : Str) : Tx := fun ρ σ P => t ρ σ (fun d => P.nx (ρ.set i (.val d)) σ) (fun x => match x with
  | .zde => P.nx (ρ.set i (.val (.str s1))) σ
  | .cplx => P.nx (ρ.set i (.val (.str s2))) σ)
theorem name_glob {A : Around} {x : Str} {v : Value} {np : Pos} {Q : Value → Shared → Prop} {E} (F : InFr cx fc ns ρ ads σ s) (hx : fc.cs.names.lookup x = some .globalImplicit) (hv : nsIn cx.K mainGlobals x = some (some v)) (hd : (x == ("__debug__" : Str)) = false) (h : Q v s) :
    wpAny (model cx.prog cx.w) A (eval (.Name x np) fc.env) Q E s :=
  Name_function_global (env := fc.env) F.hk hx (loadGlobal_global (env := fc.env) F.top.g (mg_of F.kin F.top.g hv) h) hd
theorem name_bootA {A : Around} {x : Str} {v : Value} {np : Pos} {Q : Value → Shared → Prop} {E} (F : InFr cx fc ns ρ ads σ s) (hx : fc.cs.names.lookup x = some .globalImplicit) (hno : nsIn cx.K mainGlobals x = some none) (hb : bootBuiltins x = some v) (hn : x ≠ "__name__")
    (hd : (x == ("__debug__" : Str)) = false) (h : Q v s) : wpAny (model cx.prog cx.w) A (eval (.Name x np) fc.env) Q E s :=
  Name_function_global (env := fc.env) F.hk hx (loadGlobal_builtin (env := fc.env) F.top.g (mg_none_of F.kin F.top.g hno) F.top.b ((F.top.builtins x hn).trans hb) h) hd

theorem SX_try2 {i : Nat} {x z c : Str} {s1 s2 : Str} {px px1 px2 pc1 pc2 ps ps1 ps2 np1 np2 ph1 ph2 : Pos} {kc1 kc2 : Nat} (hx : ns[i]? = some x) (hout : fc.outer = [])
    (hz : fc.cs.names.lookup z = some .globalImplicit) (hzn : nsIn cx.K mainGlobals z = some none) (hzb : bootBuiltins z = some (.type "ZeroDivisionError"))
    (hc : fc.cs.names.lookup c = some .globalImplicit) (hcv : nsIn cx.K mainGlobals c = some (some (.ref 52)))
    (m1 : exmOne cx.K (.type "ZeroDivisionError") (.type "ZeroDivisionError") = some true) (m2 : exmOne cx.K (.ref 52) (.type "ZeroDivisionError") = some false) (m3 : exmOne cx.K (.ref 52) (.ref 52) = some true)
    (h : SE cx fc ns e t) (hs : swapsWith e (some (.Name x px)) ps.line fc.env = pure false := by rfl)
    (hs1 : swapsWith (.Constant (.str s1) kc1 pc1) (some (.Name x px1)) ps1.line fc.env = pure false := by rfl) (hs2 : swapsWith (.Constant (.str s2) kc2 pc2) (some (.Name x px2)) ps2.line fc.env = pure false := by rfl)
    (hd1 : (z == ("__debug__" : Str)) = false := by decide) (hd2 : (c == ("__debug__" : Str)) = false := by decide) (hn1 : z ≠ "__name__" := by decide) :
    SX1 cx fc ns (.Try [.Assign [.Name x px] e ps] [.ExceptHandler (some (.Name z np1)) none [.Assign [.Name x px1] (.Constant (.str s1) kc1 pc1) ps1] ph1, .ExceptHandler (some (.Name c np2)) none [.Assign [.Name x px2] (.Constant (.str s2) kc2 pc2) ps2] ph2] [] [] pos) (tTry2 i t s1 s2) := by
  intro ρ ads σ s P Q' E' F ht hQ hX
  refine wpAny_Try_except (PySem.wpAny_execs_cons (PySem.wpAny_Assign_Name (h _ _ _ _ _ _ _ _ F ht (fun u d s₁ hd F₁ k₁ r₁ => ?_) fun y u s₁ hy F₁ fl => ?_) hs))
  · refine store_val F₁ hx r₁ fun s₂ F₂ k₂ => ?_
    exact PySem.wpAny_execs_nil (PySem.wpAny_execs_nil (hQ .next _ ⟨_, _, _, hd, F₂, .refl _ _⟩ ((HX.toHS k₁).trans k₂)))
  · refine land_ok F₁ fl fun s₂ g => ?_
    obtain ⟨e, rfl, H⟩ := held_of F F₁ fl g
    have hfs : fc.fs = [fc.L] := by unfold Fc.fs; rw [hout]; rfl
    have fin : ∀ {d : PyData}, P.nx (ρ.set i (.val d)) σ → ∀ s₃, InFr cx fc ns (ρ.set i (.val d)) ads σ s₃ → HS (fc.L :: (ads ++ fc.fs)) s.heap s₃.heap → Q' .next s₃ := fun hn s₃ F₃ k₃ => hQ .next _ ⟨_, _, _, hn, F₃, .refl _ _⟩ (HS.mono k₃ fun b _ hb => by
      rw [hfs] at hb
      rcases List.mem_cons.mp hb with rfl | hb
      · exact .head _
      · rcases List.mem_append.mp hb with hb | hb
        · exact .tail _ hb
        · rw [List.mem_singleton.mp hb]; exact .head _)
    cases y with
    | zde => exact clause_hit F H m1 (fun A Q E q => name_bootA H.2.1 hz hzn hzb hn1 hd1 q) hx hs1 (fin hy)
    | cplx => exact clause_not H m2 (fun A Q E q => name_bootA H.2.1 hz hzn hzb hn1 hd1 q) (clause_hit F H m3 (fun A Q E q => name_glob H.2.1 hc hcv hd2 q) hx hs2 (fin hy))
end Mine

namespace Mine
open PySem PySem.W PySem.Calls PyProof.Rows PySem.Spec
variable {cx : Cx} {fc : Fc} {ns : List Str} {ρ : List Slot} {ads : List Addr} {σ : List (List PyData)} {s s' : Shared}
variable {e e₁ e₂ l r value slice iter : Expr} {es : List Expr} {t t₁ t₂ tl tr : Tr} {tt tt₁ tt₂ : Tt} {ts : Ts} {p pos apos : Pos} {k : Nat} {kk : PyData → PyData → (PyData → Prop) → Prop}
variable {st : Stmt} {sts body orelse : List Stmt} {tx tx₁ tx₂ : Tx}

/-! a slice of a temporary list -/
theorem SE_cutToT (hv : SE cx fc ns value t₁) (hi : SE cx fc ns slice t₂) : SE cx fc ns (.Subscript value (.Slice none (some slice) none p) pos) (tCutTo t₁ t₂) :=
  fun _ _ _ _ _ _ _ _ F hw hQ hX => by
  refine Subscript_ (hv _ _ _ _ _ _ _ _ F hw (fun u d s₁ h₁ F₁ k₁ r₁ => wpAny_Slice (wpAny_evalPart_none (wpAny_evalPart_some (hi _ _ _ _ _ _ _ _ F₁ h₁ (fun v d' s₂ h₂ F₂ k₂ r₂ => wpAny_evalPart_none ?_) fun x u s' hx F' fl => hX x u s' hx F' (fl.hx k₁))))) hX)
  cases d <;> (try exact h₂.elim)
  cases d' <;> (try exact h₂.elim)
  rename_i ds i
  obtain ⟨h0, h2, h3⟩ := h₂
  cases r₂ with
  | int _ tk =>
  have r1 := r₁.hx k₂
  cases r1 with
  | @list a o vs n xs ho hc hd hx rs =>
  have hsz : vs.size = ds.length := by rw [← rs.length]; simp
  have hl : s₂.heap.IsList a vs := ⟨o, ho, hc, n, hd⟩
  have ei : i = ((i.toNat : Nat) : Int) := by omega
  have hp : slicePick vs none (some i) none = (vs.toList.take i.toNat).toArray := by
    rw [ei]; exact slicePick_to' vs i.toNat
  refine tail_any (ops := [.ref s₂.heap.objs.size, .ref a]) (T := "list") (hl.push _).typeIs slot_list_getitem.lookup (wpAny_getItem_list_slice (lo := none) (hi := some i) (hl.push _) (Heap.IsSliceOf.new ..) .none (.int _ _) .none (by simp) ?_ (by rw [sizeLine_eq]; omega)) rfl
  rw [hp]
  have F₃ := F₂.push { cls := .type "slice", data := .fields #[.none, .int i tk, .none] }
  have F₄ := F₃.push { cls := .type "list", data := .seq (vs.toList.take i.toNat).toArray }
  have kk : HX s₂.heap ((s₂.heap.push { cls := .type "slice", data := .fields #[.none, .int i tk, .none] }).push { cls := .type "list", data := .seq (vs.toList.take i.toNat).toArray }) :=
    HX.of_keep fun _ _ e => Heap.get?_push_of_some _ (Heap.get?_push_of_some _ e)
  exact hQ _ _ _ h3 F₄ ((k₁.trans k₂).trans kk) (.list (Heap.get?_push_size _ rfl) rfl rfl F₃.newX ((rs.take i.toNat).hx kk))

/-! two new own lists -/
theorem InFr.newOwn (F : InFr cx fc ns ρ ads σ s) : InFr cx fc ns ρ (ads ++ [s.heap.objs.size]) (σ ++ [[]]) { s with heap := s.heap.push { cls := .type "list", data := .seq ([] : List Value).toArray } } := by
  have G := F.push { cls := .type "list", data := .seq ([] : List Value).toArray }
  have hk : ∀ b o, s.heap.get? b = some o → (s.heap.push { cls := .type "list", data := .seq ([] : List Value).toArray }).get? b = some o := fun b o e => Heap.get?_push_of_some _ e
  have hX' : ∀ b o, s.heap.get? b = some o → b ∉ fc.X ads → b ∉ fc.X (ads ++ [s.heap.objs.size]) := fun b o e hb q => by
    rcases List.mem_cons.mp q with q | q
    · exact hb (q ▸ .head _)
    · rcases List.mem_append.mp q with q | q
      · rcases List.mem_append.mp q with q | q
        · exact hb (.tail _ (List.mem_append_left _ q))
        · exact absurd (Heap.lt_size e) (by rw [List.mem_singleton.mp q]; exact Nat.lt_irrefl _)
      · exact hb (.tail _ (List.mem_append_right _ q))
  refine ⟨G.kin, G.top, G.gi, ?_, F.lN, ⟨by simp [F.own.1], ?_, fun k a ds h1 h2 => ?_⟩, G.frs, G.fbs, F.nsl, F.nsd, F.hk, F.rmd, F.rmu⟩
  · obtain ⟨m, h1, h2⟩ := F.env
    refine ⟨m, Ns.mono h1 (HX.of_keep hk), fun i x sl hi hr => ?_⟩
    have := h2 i x sl hi hr
    cases sl with
    | undef => trivial
    | val d => obtain ⟨u, h3, h4⟩ := this; exact ⟨u, h3, h4.mono fun b o vs n ho hd hx => ⟨hk b o ho, hX' b o ho hx⟩⟩
    | own k =>
      obtain ⟨a, h3, h4⟩ := this
      exact ⟨a, h3, by rw [List.getElem?_append_left (List.getElem?_eq_some_iff.mp h4).1]; exact h4⟩
  · rw [List.nodup_append]
    refine ⟨F.own.2.1, by simp, fun a ha b hb q => ?_⟩
    have hb := List.mem_singleton.mp hb
    subst q; subst hb
    exact F.newX (.tail _ (List.mem_append_left _ ha))
  · by_cases hlt : k < ads.length
    · rw [List.getElem?_append_left hlt] at h1
      rw [List.getElem?_append_left (by rw [← F.own.1]; exact hlt)] at h2
      obtain ⟨h3, o, items, n, h4, h5, h5d, h6, h7⟩ := F.own.2.2 k a ds h1 h2
      exact ⟨h3, o, items, n, hk _ _ h4, h5, h5d, h6, h7.mono fun b o vs n ho hd hx => ⟨hk b o ho, hX' b o ho hx⟩⟩
    · rw [List.getElem?_append_right (by omega)] at h1
      rw [List.getElem?_append_right (by rw [← F.own.1]; omega)] at h2
      obtain ⟨q1, q2⟩ := List.getElem?_eq_some_iff.mp h1
      obtain ⟨q3, q4⟩ := List.getElem?_eq_some_iff.mp h2
      have e1 : a = s.heap.objs.size := by rw [← q2]; simp
      have e2 : ds = [] := by rw [← q4]; simp
      subst e1; subst e2
      exact ⟨F.lowN, _, _, _, Heap.get?_push_size _ rfl, rfl, ⟨rfl, rfl⟩, rfl, .nil⟩

def tTwo (i j : Nat) : Tx := fun ρ σ P => P.nx ((ρ.set j (.own (σ.length + 1))).set i (.own σ.length)) (σ ++ [[]] ++ [[]])
theorem SX_two {i j : Nat} {x y : Str} {p1 p2 pt q1 q2 pv : Pos} {kt kv : Nat} {cs : Scope} (hcs : fc.cs = cs) (hx : ns[i]? = some x) (hy : ns[j]? = some y)
    (hs : swapsWithSole [.Tuple [.Name x p1, .Name y p2] kt pt] (.Tuple [.List [] q1, .List [] q2] kv pv) pos.line fc.env = pure false)
    (hw : swappedStores [.Tuple [.Name x p1, .Name y p2] kt pt] (.Tuple [.List [] q1, .List [] q2] kv pv) (envOf fc.cn cs fc.L fc.a fc.cd) = pure (some [x, y])) :
    SX1 cx fc ns (.Assign [.Tuple [.Name x p1, .Name y p2] kt pt] (.Tuple [.List [] q1, .List [] q2] kv pv) pos) (tTwo i j) := by
  subst hcs
  intro ρ ads σ s P Q' E' F ht hQ hX
  refine Assign_Tuple_swapped (PySem.wpAny_Tuple (wpAny_items_cons (PySem.wpAny_List (wpAny_items_nil ⟨by simp, ?_⟩)))) hs hw
  have F₁ := F.newOwn
  refine wpAny_items_cons (PySem.wpAny_List (wpAny_items_nil ⟨by simp, ?_⟩))
  have F₂ := F₁.newOwn
  refine wpAny_items_nil ⟨by rw [sizeLine_eq]; simp, ?_⟩
  have F₃ := F₂.push { cls := .type "tuple", data := .seq ([.ref s.heap.objs.size, .ref (s.heap.push { cls := .type "list", data := .seq ([] : List Value).toArray }).objs.size] : List Value).toArray }
  refine unpackItems_tuple (items := #[.ref s.heap.objs.size, .ref (s.heap.push { cls := .type "list", data := .seq ([] : List Value).toArray }).objs.size]) rfl ⟨_, Heap.get?_push_size _ rfl, rfl, _, rfl⟩ fun h' he => ?_
  have kp : ∀ b o, _ → h'.get? b = some o := fun b o e => he b o (Nat.ne_of_lt (Heap.lt_size e)) e
  have F₄ := F₃.keep (s' := { s with heap := h' }) kp rfl rfl
  have hk : ∀ b o, s.heap.get? b = some o → h'.get? b = some o := fun b o e => kp b o (Heap.get?_push_of_some _ (Heap.get?_push_of_some _ (Heap.get?_push_of_some _ e)))
  have hl : ads.length = σ.length := F.own.1
  have sz1 : (s.heap.push { cls := .type "list", data := .seq ([] : List Value).toArray }).objs.size = s.heap.objs.size + 1 := Heap.size_push ..
  show wpAny (model cx.prog cx.w) fc.A (do holding _ (bindName fc.env y _); assignInOrder [bindName fc.env x] [_]) _ _ _
  refine wpAny_bind (wpAny_holding (bindName_ (store_ok (sl := .own (σ.length + 1)) F₄ hy (fun h'' m' _ hm => ⟨_, hm, ?_⟩) fun s₅ F₅ k₅ => ?_)))
  · rw [← hl, List.getElem?_append_right (by simp)]; simp
  show wpAny (model cx.prog cx.w) fc.A (do holding _ (bindName fc.env x _); assignInOrder [] []) _ _ _
  refine wpAny_bind (wpAny_holding (bindName_ (store_ok (sl := .own σ.length) F₅ hx (fun h'' m' _ hm => ⟨_, hm, ?_⟩) fun s₆ F₆ k₆ => wpAny_pure ?_)))
  · rw [← hl, List.getElem?_append_left (by simp), List.getElem?_append_right (Nat.le_refl _)]; simp
  have gr : Grow s.heap ads (ads ++ [s.heap.objs.size] ++ [(s.heap.push { cls := .type "list", data := .seq ([] : List Value).toArray }).objs.size]) := fun a ha => by
    simp only [List.append_assoc, List.mem_append, List.mem_cons, List.not_mem_nil, or_false, List.cons_append, List.nil_append] at ha
    rcases ha with ha | ha | ha
    · exact .inl ha
    · exact .inr (by rw [ha]; exact Heap.get?_none_of_le (Nat.le_refl _))
    · exact .inr (by rw [ha, sz1]; exact Heap.get?_none_of_le (Nat.le_succ _))
  exact hQ .next _ ⟨_, _, _, ht, F₆, gr⟩ ((HX.toHS (HX.of_keep hk)).grow gr (k₅.trans k₆))

/-! own lists from here on only read -/
def frz (σ : List (List PyData)) : Slot → Slot
  | .own k => match σ[k]? with
    | some ds => .val (.list ds)
    | none => .undef
  | sl => sl
theorem InFr.freeze (hfb : fc.fb = []) (F : InFr cx fc ns ρ ads σ s) : InFr cx fc ns (ρ.map (frz σ)) [] [] s := by
  have rd : ∀ {u d}, Rd s.heap (fc.X ads) u d → Rd s.heap (fc.X []) u d := fun r => r.mono fun b o vs n ho hd hx => ⟨ho, fun q => hx (by
    rw [Fc.X, hfb] at q
    rcases List.mem_cons.mp q with q | q
    · rw [q]; exact .head _
    · cases q)⟩
  have rds : ∀ {u d}, Rds s.heap (fc.X ads) u d → Rds s.heap (fc.X []) u d := fun r => r.mono fun b o vs n ho hd hx => ⟨ho, fun q => hx (by
    rw [Fc.X, hfb] at q
    rcases List.mem_cons.mp q with q | q
    · rw [q]; exact .head _
    · cases q)⟩
  refine ⟨F.kin, F.top, F.gi, ?_, F.lN, ⟨rfl, List.nodup_nil, fun k a ds h => by simp at h⟩, F.frs, F.fbs, F.nsl, F.nsd, F.hk, F.rmd, F.rmu⟩
  obtain ⟨m, h1, h2⟩ := F.env
  refine ⟨m, h1, fun i x sl hi hr => ?_⟩
  rw [List.getElem?_map] at hr
  cases hr0 : ρ[i]? with
  | none => rw [hr0] at hr; cases hr
  | some sl₀ =>
    rw [hr0] at hr
    have e : sl = frz σ sl₀ := (Option.some.inj hr).symm
    subst e
    have := h2 i x sl₀ hi hr0
    cases sl₀ with
    | undef => trivial
    | val d => obtain ⟨u, h3, h4⟩ := this; exact ⟨u, h3, rd h4⟩
    | own k =>
      obtain ⟨a, h3, h4⟩ := this
      cases hs : σ[k]? with
      | none =>
        have hz : frz σ (.own k) = .undef := by simp only [frz, hs]
        rw [hz]; trivial
      | some ds =>
        have hz : frz σ (.own k) = .val (.list ds) := by simp only [frz, hs]
        rw [hz]
        obtain ⟨_, o, items, n, g1, g2, _, g3, g4⟩ := F.own.2.2 k a ds h4 hs
        refine ⟨_, h3, .list g1 g2 g3 (fun q => ?_) (rds g4)⟩
        rw [Fc.X, hfb] at q
        rcases List.mem_cons.mp q with q | q
        · obtain ⟨o', es, ep, b1, b2, _⟩ := h1
          rw [q, b1] at g1; injection g1 with g1; subst g1; rw [b2] at g3; cases g3
        · cases q
def tFrz (tx : Tx) : Tx := fun ρ σ P => tx (ρ.map (frz σ)) [] P
theorem SX_frz (hfb : fc.fb = []) (h : SX cx fc ns sts tx) : SX cx fc ns sts (tFrz tx) := fun ρ ads σ s P Q' E' F ht hQ hX => by
  have gr : ∀ {ads'}, Grow s.heap [] ads' → Grow s.heap ads ads' := fun g a ha => (g a ha).elim (fun q => nomatch q) .inr
  refine h _ _ _ _ _ _ _ (F.freeze hfb) ht (fun fl s' hf k => hQ fl s' ?_ (k.mono fun b _ hb => by rw [List.mem_singleton.mp hb]; exact .head _)) fun x u s' ρ' ads' σ' hx F' g fl => hX x u s' ρ' ads' σ' hx F' (gr g) (fl.pre (HS.refl _ _) fun b _ hb => by rw [List.mem_singleton.mp hb]; exact .head _)
  cases fl with
  | next => obtain ⟨ρ₂, ads₂, σ₂, a1, a2, a3⟩ := hf; exact ⟨ρ₂, ads₂, σ₂, a1, a2, gr a3⟩
  | brk => obtain ⟨ρ₂, ads₂, σ₂, a1, a2, a3⟩ := hf; exact ⟨ρ₂, ads₂, σ₂, a1, a2, gr a3⟩
  | cont => obtain ⟨ρ₂, ads₂, σ₂, a1, a2, a3⟩ := hf; exact ⟨ρ₂, ads₂, σ₂, a1, a2, gr a3⟩
  | ret v => obtain ⟨ρ₂, ads₂, σ₂, d, a1, a2, a3, a4⟩ := hf; exact ⟨ρ₂, ads₂, σ₂, d, a1, a2, gr a3, a4⟩
end Mine

namespace Mine
open PySem PySem.W PySem.Calls PyProof.Rows PySem.Spec
variable {cx : Cx} {fc : Fc} {ns : List Str} {ρ : List Slot} {ads : List Addr} {σ : List (List PyData)} {s s' : Shared}
variable {e e₁ e₂ l r value slice iter : Expr} {es : List Expr} {t t₁ t₂ tl tr : Tr} {tt tt₁ tt₂ : Tt} {ts : Ts} {p pos apos : Pos} {k : Nat} {kk : PyData → PyData → (PyData → Prop) → Prop}
variable {st : Stmt} {sts body orelse : List Stmt} {tx tx₁ tx₂ : Tx}

/-! an own list's item stored -/
def setOwnQ (i : Nat) (tk : Tr) (d : PyData) (ρ : List Slot) (σ : List (List PyData)) (Q : List (List PyData) → Prop) : Prop :=
  ownQ (ρ.getD i .undef) σ fun k ds => tk ρ σ (fun b => intQ b fun n => 0 ≤ n ∧ n < 1000000 ∧ n.toNat < ds.length ∧ Q (σ.set k (ds.set n.toNat d))) (fun _ => False)
theorem asg_own {i : Nat} {x : Str} {u : Value} {d : PyData} {tk : Tr} {px ps : Pos} {Qσ : List (List PyData) → Prop} {Q : Unit → Shared → Prop} {E} (F : InFr cx fc ns ρ ads σ s) (hx : ns[i]? = some x) (h : SE cx fc ns slice tk) (ru : Rd s.heap (fc.X ads) u d)
    (hrel : ∀ (iv v ov : Value), (match slice with | .Slice _ _ none _ => [iv, v, ov] | _ => [v, ov, iv]) = [v, ov, iv]) (hd : (x == ("__debug__" : Str)) = false)
    (ht : setOwnQ i tk d ρ σ Qσ) (hQ : ∀ s' σ', Qσ σ' → InFr cx fc ns ρ ads σ' s' → HS (fc.L :: ads) s.heap s'.heap → Q () s') :
    wpAny (model cx.prog cx.w) fc.A (assign (.Subscript (.Name x px) slice ps) fc.env u) Q E s := by
  obtain ⟨m, a, k, ds, h1, h2, h3, h4, h5⟩ := own_get F hx ht
  rw [arm_assign_Subscript]
  refine wpAny_bind (wpAny_holding (wpAny_Name (wpAny_loadName_local F.hk (F.nsl x (List.mem_of_getElem? hx)) h1 h2 ?_) hd))
  refine wpAny_bind (wpAny_holding (h _ _ _ _ _ _ _ _ F h5 (fun v b s₁ hq F₁ k₁ r₁ => ?_) fun _ _ _ z => z.elim))
  cases b <;> (try exact hq.elim)
  rename_i n
  obtain ⟨n0, n1, n2, hq⟩ := hq
  cases r₁ with
  | int _ tk =>
  obtain ⟨_, o, items, c, b1, b2, b2d, b4, b5⟩ := F₁.own.2.2 k a ds h3 h4
  have hsz : items.size = ds.length := by rw [← b5.length]; simp
  refine wpAny_bind (wpAny_standAt (wpAny_bind (wpAny_holding (ki_setAt (plain_of b1 b2 b2d b4) n0 (by omega) (by omega) (wpAny_release ?_)))))
  obtain ⟨F₂, k₂⟩ := own_change (ds' := ds.set n.toNat d) F₁ h3 h4 ⟨_, PySem.IsL.update (n := c) (plain_of b1 b2 b2d b4) (·.setIfInBounds n.toNat u)⟩ (Heap.SameBut.update ..) (by rw [Array.toList_setIfInBounds]; exact Rds.set (ru.hx k₁) n.toNat b5)
  exact hQ _ _ hq F₂ ((HX.toHS k₁).trans k₂)

def tSubs2 (i j : Nat) (t tk tk' : Tr) : Tx := fun ρ σ P => t ρ σ (fun d => tupQ d fun dd => match dd with
  | [d1, d2] => setOwnQ i tk d1 ρ σ fun σ' => setOwnQ j tk' d2 ρ σ' fun σ'' => P.nx ρ σ''
  | _ => False) (fun x => P.xx x ρ σ)
theorem SX_subs2 {i j : Nat} {x y : Str} {k1 k2 : Expr} {tk tk' : Tr} {px py ps ps' pt : Pos} {kt : Nat} {cs : Scope} (hcs : fc.cs = cs) (hx : ns[i]? = some x) (hy : ns[j]? = some y) (h : SE cx fc ns e t) (h1 : SE cx fc ns k1 tk) (h2 : SE cx fc ns k2 tk')
    (hr1 : ∀ (iv v ov : Value), (match k1 with | .Slice _ _ none _ => [iv, v, ov] | _ => [v, ov, iv]) = [v, ov, iv]) (hr2 : ∀ (iv v ov : Value), (match k2 with | .Slice _ _ none _ => [iv, v, ov] | _ => [v, ov, iv]) = [v, ov, iv])
    (hd1 : (x == ("__debug__" : Str)) = false) (hd2 : (y == ("__debug__" : Str)) = false)
    (hs : swapsWithSole [.Tuple [.Subscript (.Name x px) k1 ps, .Subscript (.Name y py) k2 ps'] kt pt] e pos.line fc.env = pure false)
    (hw : swappedStores [.Tuple [.Subscript (.Name x px) k1 ps, .Subscript (.Name y py) k2 ps'] kt pt] e (envOf fc.cn cs fc.L fc.a fc.cd) = pure none) :
    SX1 cx fc ns (.Assign [.Tuple [.Subscript (.Name x px) k1 ps, .Subscript (.Name y py) k2 ps'] kt pt] e pos) (tSubs2 i j t tk tk') := by
  subst hcs
  intro ρ ads σ s P Q' E' F ht hQ hX
  refine Assign_Tuple (h.inX F ht (fun u d s₁ hd F₁ k₁ r₁ => ?_) hX) hs hw
  cases d <;> (try exact hd.elim)
  rename_i dd
  match dd, hd, r₁ with
  | [d1, d2], hd, .tuple (a := a) (o := o) (vs := vs) (n := n) ho hc hdd hax rs =>
  have hsz : vs.size = 2 := by have := rs.length; simpa using this
  have hd' : setOwnQ i tk d1 ρ σ fun σ' => setOwnQ j tk' d2 ρ σ' fun σ'' => P.nx ρ σ'' := hd
  refine assign_Tuple_tuple (Q := fun _ => Q' .next) rfl ⟨o, ho, hc, n, hdd⟩ (by rw [hsz]; rfl) rfl fun h' he => ?_
  have kp : ∀ b o, s₁.heap.get? b = some o → h'.get? b = some o := fun b o e => he b o (Nat.ne_of_lt (Heap.lt_size e)) e
  have F₂ := F₁.keep (s' := { s₁ with heap := h' }) kp rfl rfl
  obtain ⟨u1, u2, hus, r1, r2⟩ := two_of (rs.hx (HX.of_keep kp))
  rw [hus]
  show wpAny (model cx.prog cx.w) fc.A (do holding _ (assign (.Subscript (.Name x px) k1 ps) fc.env u1); assignInOrder [assign (.Subscript (.Name y py) k2 ps') fc.env] [u2]) _ _ _
  refine wpAny_bind (wpAny_holding (asg_own F₂ hx h1 r1 hr1 hd1 hd' fun s₃ σ₃ h₃ F₃ k₃ => ?_))
  show wpAny (model cx.prog cx.w) fc.A (do holding _ (assign (.Subscript (.Name y py) k2 ps') fc.env u2); assignInOrder [] []) _ _ _
  refine wpAny_bind (wpAny_holding (asg_own F₃ hy h2 (r2.hs k₃ lx fun _ _ q => q) hr2 hd2 h₃ fun s₄ σ₄ h₄ F₄ k₄ => wpAny_pure ?_))
  exact hQ .next _ ⟨_, _, _, h₄, F₄, .refl _ _⟩ ((HX.toHS (k₁.trans (HX.of_keep kp))).trans (k₃.trans k₄))
end Mine

namespace Mine
open PySem PySem.W PySem.Calls PyProof.Rows PySem.Spec
variable {cx : Cx} {fc : Fc} {ns : List Str} {ρ : List Slot} {ads : List Addr} {σ : List (List PyData)} {s s' : Shared}
variable {e e₁ e₂ l r value slice iter : Expr} {es : List Expr} {t t₁ t₂ tl tr : Tr} {tt tt₁ tt₂ : Tt} {ts : Ts} {p pos apos : Pos} {k : Nat} {kk : PyData → PyData → (PyData → Prop) → Prop}
variable {st : Stmt} {sts body orelse : List Stmt} {tx tx₁ tx₂ : Tx}

/-- the frame with one more address that no value may read -/
abbrev Fc.with (fc : Fc) (T : Addr) : Fc := { fc with fb := T :: fc.fb }

theorem with_sub {T : Addr} : ∀ b, b ∈ fc.X ads → b ∈ (fc.with T).X ads := fun b hb => by
  rcases List.mem_cons.mp hb with q | q
  · exact q ▸ .head _
  · rcases List.mem_append.mp q with q | q
    · exact .tail _ (List.mem_append_left _ q)
    · exact .tail _ (List.mem_append_right _ (.tail _ q))
theorem with_inv {T : Addr} : ∀ b, b ∈ (fc.with T).X ads → b = T ∨ b ∈ fc.X ads := fun b hb => by
  rcases List.mem_cons.mp hb with q | q
  · exact .inr (q ▸ .head _)
  · rcases List.mem_append.mp q with q | q
    · exact .inr (.tail _ (List.mem_append_left _ q))
    · rcases List.mem_cons.mp q with q | q
      · exact .inl q
      · exact .inr (.tail _ (List.mem_append_right _ q))

theorem InFr.drop {T : Addr} (F : InFr cx (fc.with T) ns ρ ads σ s) : InFr cx fc ns ρ ads σ s := by
  have rd : ∀ {u d}, Rd s.heap ((fc.with T).X ads) u d → Rd s.heap (fc.X ads) u d := fun r => r.mono fun b o vs n ho hd hx => ⟨ho, fun q => hx (with_sub _ q)⟩
  have rds : ∀ {u d}, Rds s.heap ((fc.with T).X ads) u d → Rds s.heap (fc.X ads) u d := fun r => r.mono fun b o vs n ho hd hx => ⟨ho, fun q => hx (with_sub _ q)⟩
  refine ⟨F.kin, F.top, F.gi, ?_, F.lN, ⟨F.own.1, F.own.2.1, fun k a ds h1 h2 => ?_⟩, F.frs, fun x hx => F.fbs x (.tail _ hx), F.nsl, F.nsd, F.hk, F.rmd, F.rmu⟩
  · obtain ⟨m, h1, h2⟩ := F.env
    refine ⟨m, h1, fun i x sl hi hr => ?_⟩
    have := h2 i x sl hi hr
    cases sl with
    | undef => trivial
    | val d => obtain ⟨u, h3, h4⟩ := this; exact ⟨u, h3, rd h4⟩
    | own k => exact this
  · obtain ⟨h3, o, items, n, h4, h5, h5d, h6, h7⟩ := F.own.2.2 k a ds h1 h2
    exact ⟨h3, o, items, n, h4, h5, h5d, h6, rds h7⟩

theorem InFr.addFb {T : Addr} (F : InFr cx fc ns ρ ads σ s) (hk : ∀ b o, s.heap.get? b = some o → s'.heap.get? b = some o) (hos : s'.os = s.os) (hg : s'.gens = s.gens) (hT : s.heap.get? T = none) (hN : cx.N ≤ T) (hT' : ∃ o, s'.heap.get? T = some o) :
    InFr cx (fc.with T) ns ρ ads σ s' := by
  have G := F.keep (s' := s') hk hos hg
  have rd : ∀ {u d}, Rd s.heap (fc.X ads) u d → Rd s'.heap ((fc.with T).X ads) u d := fun r => r.mono fun b o vs n ho hd hx => ⟨hk b o ho, fun q => (with_inv _ q).elim (fun z => by rw [z, hT] at ho; cases ho) hx⟩
  have rds : ∀ {u d}, Rds s.heap (fc.X ads) u d → Rds s'.heap ((fc.with T).X ads) u d := fun r => r.mono fun b o vs n ho hd hx => ⟨hk b o ho, fun q => (with_inv _ q).elim (fun z => by rw [z, hT] at ho; cases ho) hx⟩
  refine ⟨G.kin, G.top, G.gi, ?_, G.lN, ⟨F.own.1, F.own.2.1, fun k a ds h1 h2 => ?_⟩, G.frs, fun x hx => ?_, G.nsl, G.nsd, G.hk, G.rmd, G.rmu⟩
  · obtain ⟨m, h1, h2⟩ := F.env
    refine ⟨m, Ns.mono h1 (HX.of_keep hk), fun i x sl hi hr => ?_⟩
    have := h2 i x sl hi hr
    cases sl with
    | undef => trivial
    | val d => obtain ⟨u, h3, h4⟩ := this; exact ⟨u, h3, rd h4⟩
    | own k => exact this
  · obtain ⟨h3, o, items, n, h4, h5, h5d, h6, h7⟩ := F.own.2.2 k a ds h1 h2
    exact ⟨h3, o, items, n, hk _ _ h4, h5, h5d, h6, rds h7⟩
  · rcases List.mem_cons.mp hx with rfl | hx
    · exact ⟨hN, hT'⟩
    · exact G.fbs x hx

/-- a change of some new records, and of what no value may read -/
theorem InFr.touchG (F : InFr cx fc ns ρ ads σ s) {l : List Addr} {fb' : List Addr} (hsub : ∀ x ∈ fb', x ∈ fc.fb) (hex : ∀ x ∈ fb', x ∈ l → ∃ o, s'.heap.get? x = some o)
    (hl : ∀ it ∈ l, cx.N ≤ it ∧ it ∉ ads ∧ ∃ oi, s.heap.get? it = some oi ∧ ¬ Cd oi ∧ (∀ es n, oi.data ≠ .dict es n) ∧ ((∃ vs n, oi.data = .seq vs n) → it ∈ fc.fb))
    (hk : ∀ b o, b ∉ l → s.heap.get? b = some o → s'.heap.get? b = some o) (hos : s'.os = s.os) (hg : s'.gens = s.gens) : InFr cx { fc with fb := fb' } ns ρ ads σ s' := by
  have neD : ∀ {b o es n}, s.heap.get? b = some o → o.data = .dict es n → b ∉ l := fun {b o es n} ho hd q => by
    obtain ⟨_, _, oi, h1, _, h2, _⟩ := hl b q
    rw [h1] at ho; injection ho with ho; subst ho; exact h2 _ _ hd
  have neS : ∀ {b o vs n}, s.heap.get? b = some o → o.data = .seq vs n → b ∉ fc.X ads → b ∉ l := fun {b o vs n} ho hd hx q => by
    obtain ⟨_, _, oi, h1, _, _, h2⟩ := hl b q
    rw [h1] at ho; injection ho with ho; subst ho; exact hx (.tail _ (List.mem_append_right _ (h2 ⟨_, _, hd⟩)))
  have sub : ∀ b, b ∈ Fc.X { fc with fb := fb' } ads → b ∈ fc.X ads := fun b hb => by
    rcases List.mem_cons.mp hb with q | q
    · exact q ▸ .head _
    · rcases List.mem_append.mp q with q | q
      · exact .tail _ (List.mem_append_left _ q)
      · exact .tail _ (List.mem_append_right _ (hsub _ q))
  have rd : ∀ {u d}, Rd s.heap (fc.X ads) u d → Rd s'.heap (Fc.X { fc with fb := fb' } ads) u d := fun r => r.mono fun b o vs n ho hd hx => ⟨hk b o (neS ho hd hx) ho, fun q => hx (sub _ q)⟩
  have rds : ∀ {u d}, Rds s.heap (fc.X ads) u d → Rds s'.heap (Fc.X { fc with fb := fb' } ads) u d := fun r => r.mono fun b o vs n ho hd hx => ⟨hk b o (neS ho hd hx) ho, fun q => hx (sub _ q)⟩
  have nsk : ∀ {a m}, s.heap.Ns a m → s'.heap.Ns a m := fun ⟨o, es, ep, ho, hd, r⟩ => ⟨o, es, ep, hk _ _ (neD ho hd) ho, hd, r⟩
  refine ⟨fun a o e => hk _ _ (fun q => absurd (hl a q).1 (Nat.not_le.mpr (cx.kb a o e).2)) (F.kin a o e), ?_, ?_, ?_, F.lN, ?_, ?_, fun x hx => ?_, F.nsl, F.nsd, F.hk, F.rmd, F.rmu⟩
  · have T := F.top
    obtain ⟨mc, h1, h2⟩ := T.nolimit
    exact ⟨nsk T.g, nsk T.b, ⟨mc, nsk h1, h2⟩, T.builtins, T.free⟩
  · obtain ⟨w, g⟩ := F.gi
    refine ⟨w, cx.stable _ _ _ g hos hg fun b o e hb => hk b o (fun q => ?_) e⟩
    obtain ⟨hN, _, oi, h1, h3, _⟩ := hl b q
    rcases hb with hb | hb
    · exact absurd hN (Nat.not_le.mpr (cx.ilt _ hb))
    · obtain ⟨o9, h9, h10⟩ := cx.whas _ _ _ g hb
      rw [h1] at h9; injection h9 with h9; subst h9; exact h3 h10
  · obtain ⟨m, h1, h2⟩ := F.env
    refine ⟨m, nsk h1, fun i x sl hi hr => ?_⟩
    have := h2 i x sl hi hr
    cases sl with
    | undef => trivial
    | val d => obtain ⟨u, h3, h4⟩ := this; exact ⟨u, h3, rd h4⟩
    | own k => exact this
  · refine ⟨F.own.1, F.own.2.1, fun k a ds h1 h2 => ?_⟩
    obtain ⟨h3, o, items, n, h4, h5, h5d, h6, h7⟩ := F.own.2.2 k a ds h1 h2
    exact ⟨h3, o, items, n, hk _ _ (fun q => (hl a q).2.1 (List.mem_of_getElem? h1)) h4, h5, h5d, h6, rds h7⟩
  · exact F.frs.mono fun b o es n ho hd => ⟨o, hk _ _ (neD ho hd) ho, rfl⟩
  · obtain ⟨h1, o, h2⟩ := F.fbs x (hsub x hx)
    by_cases q : x ∈ l
    · exact ⟨h1, hex x hx q⟩
    · exact ⟨h1, o, hk x o q h2⟩

theorem At.drop {T : Addr} {h₀ : Heap} {J : List Slot → List (List PyData) → Prop} (a : At cx (fc.with T) ns ads h₀ J s) : At cx fc ns ads h₀ J s :=
  let ⟨ρ, ad, σ, h1, h2, h3, h4⟩ := a; ⟨ρ, ad, σ, h1, h2.drop, h3, h4⟩
theorem FlowIs.drop {T : Addr} {h₀ : Heap} {P : Post} {fl : Flow} (f : FlowIs cx (fc.with T) ns ads h₀ P fl s) : FlowIs cx fc ns ads h₀ P fl s := by
  cases fl with
  | next => obtain ⟨ρ₂, ads₂, σ₂, a1, a2, a3⟩ := f; exact ⟨ρ₂, ads₂, σ₂, a1, a2.drop, a3⟩
  | brk => obtain ⟨ρ₂, ads₂, σ₂, a1, a2, a3⟩ := f; exact ⟨ρ₂, ads₂, σ₂, a1, a2.drop, a3⟩
  | cont => obtain ⟨ρ₂, ads₂, σ₂, a1, a2, a3⟩ := f; exact ⟨ρ₂, ads₂, σ₂, a1, a2.drop, a3⟩
  | ret v => obtain ⟨ρ₂, ads₂, σ₂, d, a1, a2, a3, a4⟩ := f; exact ⟨ρ₂, ads₂, σ₂, d, a1, a2.drop, a3, a4.mono fun b o vs n ho hd hx => ⟨ho, fun q => hx (with_sub _ q)⟩⟩

/-! for a, b in zip(e, e') -/
def zipQ (dd : List PyData) (Q : List PyData → List PyData → Prop) : Prop := match dd with
  | [.list ds, .list es] => ds.length = es.length ∧ Q ds es
  | _ => False
def tForZip (i j : Nat) (ts : Ts) (b : Tx) : Tx := fun ρ σ P => ts ρ σ (fun dd => zipQ dd fun ds es => ∃ I : Nat → List Slot → List (List PyData) → Prop, I 0 ρ σ ∧
  (∀ k d d', ds[k]? = some d → es[k]? = some d' → ∀ ρ σ, I k ρ σ → b ((ρ.set i (.val d)).set j (.val d')) σ (turnP P (I (k + 1)))) ∧ (∀ ρ σ, I ds.length ρ σ → P.nx ρ σ)) (fun x => P.xx x ρ σ)

theorem zip_apart {z a a' : Nat} (h : a < z) (h' : a' < z) : ZipApart (z + 4) (z + 2) (z + 3) z (z + 1) a a' := by
  constructor <;> (show (_ : Nat) ≠ _) <;> omega
theorem SX_forZip {i j : Nat} {x y : Str} {p1 p2 p3 pt fpos : Pos} {kt : Nat} (hx : ns[i]? = some x) (hy : ns[j]? = some y) (hen : fc.cs.names.lookup (Str.ofString "zip") = some .globalImplicit) (hno : nsIn cx.K mainGlobals (Str.ofString "zip") = some none)
    (h : SEs cx fc ns [e₁, e₂] ts) (hb : ∀ T, SX cx (fc.with T) ns body tx) (h1 : starEach [e₁, e₂] fc.env = (false, eval e₁ fc.env) :: starEach [e₂] fc.env := by rfl) (hp : (backTo fpos (starEach [e₂] fc.env)).any (·.1) = false := by rfl)
    (hs : ∀ x, foldedSetIterable (.Call (.Name (Str.ofString "zip") p3) [e₁, e₂] [] fpos) fc.env x = pure x := by intro _; rfl) :
    SX1 cx fc ns (.For (.Tuple [.Name x p1, .Name y p2] kt pt) (.Call (.Name (Str.ofString "zip") p3) [e₁, e₂] [] fpos) body [] pos) (tForZip i j ts tx) := fun ρ ads σ s P Q' E' F ht hQ hX => by
  refine PySem.wpAny_For (Call_ (name_boot F hen hno Boot.«zip» (by decide) (by decide) (PyProof.Rows.callWith_type1 (h _ _ _ _ _ _ _ _ _ F ht (fun us dd s₀ hd F₀ k₀ r₀ => ?_) fun x u s' hx F' fl => hX x u s' _ _ _ hx F' (.refl _ _) fl.ofE) h1 hp))) hs
  match dd, hd, r₀ with
  | [.list ds, .list es], hd, .cons (.list (a := a) (o := o) (vs := vs) (n := n) hao hc hdd hax rs) (.cons (.list (a := a') (o := o') (vs := vs') (n := n') hao' hc' hdd' hax' rs') .nil) =>
  obtain ⟨hlen, I, hI0, turn, fin⟩ : ds.length = es.length ∧ _ := hd
  have hl : s₀.heap.IsList a vs := ⟨o, hao, hc, n, hdd⟩
  have hl' : s₀.heap.IsList a' vs' := ⟨o', hao', hc', n', hdd'⟩
  have hszv : vs.size = ds.length := by rw [← rs.length]; simp
  have hszv' : vs'.size = es.length := by rw [← rs'.length]; simp
  refine call_zip_2 hl hl' fun h₁ hZ hTI hTO hIt hIt' hsz₁ hk₁ => wpAny_pyIter_zip hZ ?_
  have hN := F₀.lowN
  have fr : ∀ c, s₀.heap.objs.size ≤ c → s₀.heap.get? c = none := fun c hc => Heap.get?_none_of_le hc
  have lt : ∀ c o, s₀.heap.get? c = some o → c < s₀.heap.objs.size := fun c o hc => Heap.lt_size hc
  have F₁ : InFr cx (fc.with (s₀.heap.objs.size + 3)) ns ρ ads σ { s₀ with heap := h₁ } := F₀.addFb hk₁ rfl rfl (fr _ (Nat.le_add_right _ _)) (Nat.le_trans hN (Nat.le_add_right _ _)) ⟨_, hTO⟩
  have la := lt _ _ hao
  have la' := lt _ _ hao'
  have D : ZipApart (s₀.heap.objs.size + 4) (s₀.heap.objs.size + 2) (s₀.heap.objs.size + 3) s₀.heap.objs.size (s₀.heap.objs.size + 1) a a' := zip_apart la la'
  refine codeAny_forLoop_any (fun n s' => ∃ i' : Nat, n = ds.length + 1 - i' ∧ i' ≤ ds.length ∧ At cx (fc.with (s₀.heap.objs.size + 3)) ns ads s₀.heap (I i') s' ∧ IsZip s'.heap (s₀.heap.objs.size + 4) (s₀.heap.objs.size + 2) (s₀.heap.objs.size + 3) .none ∧
      IsPair s'.heap (s₀.heap.objs.size + 2) (.ref s₀.heap.objs.size) (.ref (s₀.heap.objs.size + 1)) ∧ (∃ q q', IsPair s'.heap (s₀.heap.objs.size + 3) q q') ∧ s'.heap.IsListIter s₀.heap.objs.size a i' ∧ s'.heap.IsListIter (s₀.heap.objs.size + 1) a' i') ?_ (ds.length + 1)
    ⟨0, rfl, Nat.zero_le _, ⟨ρ, ads, σ, hI0, F₁, .refl _ _, HX.toHS (HX.of_keep hk₁)⟩, hZ, hTI, ⟨_, _, hTO⟩, hIt, hIt'⟩
  clear hZ hTI hTO hIt hIt' F₁
  rintro n s₁ ⟨i', rfl, hi, ⟨ρ₁, ads₁, σ₁, hI, F₁, g₁, k₁⟩, hZ, hTI, ⟨q0, q0', hTO⟩, hit, hit'⟩
  have hal : s₁.heap.IsList a vs := ⟨o, k₁.get hao (not_tb_seq hdd) fun q => hax (lx _ q), hc, _, hdd⟩
  have hal' : s₁.heap.IsList a' vs' := ⟨o', k₁.get hao' (not_tb_seq hdd') fun q => hax' (lx _ q), hc', _, hdd'⟩
  have toX : ∀ b, (s₀.heap.get? b).isSome → b ∈ (fc.with (s₀.heap.objs.size + 3)).X ads₁ → b ∈ fc.X ads := fun b hb q => by
    rcases with_inv _ q with q | q
    · rw [q, fr _ (Nat.le_add_right _ _)] at hb; cases hb
    · rcases List.mem_cons.mp q with rfl | q
      · exact .head _
      · rcases List.mem_append.mp q with q | q
        · rcases g₁ b q with z | z
          · exact .tail _ (List.mem_append_left _ z)
          · rw [z] at hb; cases hb
        · exact .tail _ (List.mem_append_right _ q)
  have rs₁ : Rds s₁.heap ((fc.with (s₀.heap.objs.size + 3)).X ads₁) vs.toList ds := rs.hs (S := fc.L :: ads) k₁ lx toX
  have rs₁' : Rds s₁.heap ((fc.with (s₀.heap.objs.size + 3)).X ads₁) vs'.toList es := rs'.hs (S := fc.L :: ads) k₁ lx toX
  have kI : HS (fc.L :: ads) s.heap s₁.heap := k₀.toHS.trans k₁
  obtain ⟨oi, hoi, hci, hdi⟩ := id hit
  obtain ⟨oi', hoi', hci', hdi'⟩ := id hit'
  -- what a step changes
  have noOwn : ∀ {b : Addr} {o : Obj}, s₁.heap.get? b = some o → o.cls ≠ .type "list" → b ∉ ads₁ := fun {b o} hb hc q => by
    obtain ⟨_, o9, _, _, h9, h10, _⟩ := F₁.own_mem q
    rw [h9] at hb; injection hb with hb; subst hb; exact hc h10
  have hl4 : ∀ it ∈ [s₀.heap.objs.size + 4, s₀.heap.objs.size + 3, s₀.heap.objs.size, s₀.heap.objs.size + 1], cx.N ≤ it ∧ it ∉ ads₁ ∧ ∃ oi, s₁.heap.get? it = some oi ∧ ¬ Cd oi ∧ (∀ es n, oi.data ≠ .dict es n) ∧ ((∃ vs n, oi.data = .seq vs n) → it ∈ (fc.with (s₀.heap.objs.size + 3)).fb) := by
    intro it hit'
    simp only [List.mem_cons, List.not_mem_nil, or_false] at hit'
    rcases hit' with rfl | rfl | rfl | rfl
    · exact ⟨Nat.le_trans hN (Nat.le_add_right _ _), noOwn hZ (by simp), _, hZ, not_cd (c := "zip") rfl (by decide), (fun _ _ q => by cases q), fun ⟨_, _, q⟩ => by cases q⟩
    · exact ⟨Nat.le_trans hN (Nat.le_add_right _ _), noOwn hTO (by simp), _, hTO, not_cd (c := "tuple") rfl (by decide), (fun _ _ q => by cases q), fun _ => .head _⟩
    · exact ⟨hN, noOwn hoi (by rw [hci]; simp), _, hoi, not_cd hci (by decide), (fun _ _ q => by rw [hdi] at q; cases q), fun ⟨_, _, q⟩ => by rw [hdi] at q; cases q⟩
    · exact ⟨Nat.le_trans hN (Nat.le_add_right _ _), noOwn hoi' (by rw [hci']; simp), _, hoi', not_cd hci' (by decide), (fun _ _ q => by rw [hdi'] at q; cases q), fun ⟨_, _, q⟩ => by rw [hdi'] at q; cases q⟩
  have old4 : ∀ b o, s₀.heap.get? b = some o → b ∉ [s₀.heap.objs.size + 4, s₀.heap.objs.size + 3, s₀.heap.objs.size, s₀.heap.objs.size + 1] := fun b o hb q => by
    have := lt _ _ hb
    simp only [List.mem_cons, List.not_mem_nil, or_false] at q
    rcases q with rfl | rfl | rfl | rfl
    · exact absurd this (Nat.not_lt.mpr (Nat.le_add_right _ _))
    · exact absurd this (Nat.not_lt.mpr (Nat.le_add_right _ _))
    · exact absurd this (Nat.lt_irrefl _)
    · exact absurd this (Nat.not_lt.mpr (Nat.le_add_right _ _))
  cases hv : vs[i']? with
  | none =>
    have hii : i' = ds.length := by have : vs.size ≤ i' := by simpa using hv
                                    omega
    subst hii
    refine wpAny_pyNext_zip_end rfl D hZ hTI hTO hit hit' hal hal' (.inl hv) fun h₂ he => PySem.wpAny_execs_nil ?_
    have he4 : ∀ b o, b ∉ [s₀.heap.objs.size + 4, s₀.heap.objs.size + 3, s₀.heap.objs.size, s₀.heap.objs.size + 1] → s₁.heap.get? b = some o → h₂.get? b = some o := fun b o hb e => by
      simp only [List.mem_cons, List.not_mem_nil, or_false, not_or] at hb
      exact he b o hb.1 hb.2.1 hb.2.2.1 hb.2.2.2 e
    have F₂ : InFr cx fc ns ρ₁ ads₁ σ₁ { s₁ with heap := h₂ } := F₁.touchG (s' := { s₁ with heap := h₂ }) (fb' := fc.fb) (fun x hx => .tail _ hx) (fun x hx hx4 => by
      obtain ⟨_, o9, h9⟩ := F₀.fbs x hx
      exact absurd hx4 (old4 _ _ h9)) hl4 he4 rfl rfl
    refine hQ .next _ ⟨_, _, _, fin _ _ hI, F₂, (Grow.refl _ _).trans k₀ g₁⟩ fun b o e => ?_
    obtain ⟨o₀, z1, z2⟩ := k₀ b o e
    obtain ⟨o₁, z3, z4⟩ := k₁ b o₀ z1
    refine ⟨o₁, he4 b o₁ (old4 _ _ z1) z3, fun hn hs => ?_⟩
    have := z2 hn (fun q => nomatch q)
    subst this
    exact z4 hn hs
  | some v =>
    have hlt2 : i' < vs.size := (Array.getElem?_eq_some_iff.mp hv).1
    have hv' : vs'[i']? = some (vs'[i']'(by omega)) := Array.getElem?_eq_getElem (by omega)
    refine wpAny_pyNext_zip_item D hZ hTI hTO hit hit' hal hal' hv hv' fun h₂ hZ₂ hTO₂ hit₂ hit₂' hT₂ hsz₂ hk₂ => ?_
    refine wpAny_letOwnedTupleGo_zip hZ₂ fun h₃ hZ₃ hs₃ => ?_
    have hk₃ : ∀ b o, b ∉ [s₀.heap.objs.size + 4, s₀.heap.objs.size + 3, s₀.heap.objs.size, s₀.heap.objs.size + 1] → s₁.heap.get? b = some o → h₃.get? b = some o := fun b o hb e => by
      simp only [List.mem_cons, List.not_mem_nil, or_false, not_or] at hb
      exact (hs₃.2 b hb.1).trans (hk₂ b o hb.1 hb.2.1 hb.2.2.1 hb.2.2.2 e)
    have tTO₃ : IsPair h₃ (s₀.heap.objs.size + 3) v (vs'[i']'(by omega)) := (hs₃.2 _ D.TOz).trans hTO₂
    have F₃ : InFr cx (fc.with (s₀.heap.objs.size + 3)) ns ρ₁ ads₁ σ₁ { s₁ with heap := h₃ } := F₁.touchG (s' := { s₁ with heap := h₃ }) (fb' := (fc.with (s₀.heap.objs.size + 3)).fb) (fun x hx => hx) (fun x hx hx4 => by
      rcases List.mem_cons.mp hx with rfl | hx
      · exact ⟨_, tTO₃⟩
      · obtain ⟨_, o9, h9⟩ := F₀.fbs x hx
        exact absurd hx4 (old4 _ _ h9)) hl4 hk₃ rfl rfl
    have tZ : s₁.heap.objs.size ≠ s₀.heap.objs.size + 4 := Nat.ne_of_gt (Heap.lt_size hZ)
    have htup : h₃.get? s₁.heap.objs.size = some { cls := .type "tuple", data := .seq #[v, vs'[i']'(by omega)] } := (hs₃.2 _ tZ).trans hT₂
    have hdk : ds[i']? = some (ds[i']'(by omega)) := List.getElem?_eq_getElem (by omega)
    have hdk' : es[i']? = some (es[i']'(by omega)) := List.getElem?_eq_getElem (by omega)
    have rdk : ∀ {u d}, Rd s₁.heap ((fc.with (s₀.heap.objs.size + 3)).X ads₁) u d → Rd h₃ ((fc.with (s₀.heap.objs.size + 3)).X ads₁) u d := fun r => r.mono fun b o vs n ho hd hx => ⟨hk₃ b o (fun q => by
      obtain ⟨_, _, oi9, a1, _, _, a4⟩ := hl4 b q
      rw [ho] at a1; injection a1 with a1; subst a1
      exact hx (.tail _ (List.mem_append_right _ (a4 ⟨_, _, hd⟩)))) ho, hx⟩
    obtain ⟨u, hu, ru⟩ := rs₁.get _ _ hdk
    have huv : u = v := by
      have : vs.toList[i']? = some v := by simpa using hv
      rw [hu] at this; exact Option.some.inj this
    subst huv
    obtain ⟨u', hu', ru'⟩ := rs₁'.get _ _ hdk'
    have huv' : u' = vs'[i']'(by omega) := by
      have : vs'.toList[i']? = some (vs'[i']'(by omega)) := by simpa using hv'
      rw [hu'] at this; exact Option.some.inj this
    rw [← huv'] at htup
    have k₃ : HS (fc.L :: ads) s₀.heap h₃ := fun b o e => by
      obtain ⟨o', h1, h2⟩ := k₁ b o e
      exact ⟨o', hk₃ b o' (old4 _ _ e) h1, h2⟩
    refine assign_Tuple_tuple (Q := fun _ s₂ => _) rfl ⟨_, htup, rfl, _, rfl⟩ rfl rfl fun h₄ he₄ => ?_
    have kk₄ : ∀ b o, h₃.get? b = some o → h₄.get? b = some o := fun b o e => he₄ b o (Nat.ne_of_lt (Heap.lt_size e)) e
    have F₄ : InFr cx (fc.with (s₀.heap.objs.size + 3)) ns ρ₁ ads₁ σ₁ { s₁ with heap := h₄ } := F₃.keep (s' := { s₁ with heap := h₄ }) kk₄ rfl rfl
    have rpair : Rds h₄ ((fc.with (s₀.heap.objs.size + 3)).X ads₁) [u, u'] [ds[i']'(by omega), es[i']'(by omega)] := .cons ((rdk ru).hx (HX.of_keep kk₄)) (.cons ((rdk ru').hx (HX.of_keep kk₄)) .nil)
    refine assign_all (fc := fc.with (s₀.heap.objs.size + 3)) (NameElts.cons (NameElts.cons NameElts.nil)) [i, j] [u, u'] [ds[i']'(by omega), es[i']'(by omega)] (s := { s₁ with heap := h₄ }) F₄ rfl (by simp [hx, hy]) rpair fun s₅ F₅ k₅ => ?_
    have k₄ : HS (fc.L :: ads) s₀.heap h₄ := k₃.trans (HX.toHS (HX.of_keep kk₄))
    have k₅' : HS (fc.L :: ads) s₀.heap s₅.heap := k₄.grow g₁ k₅
    refine turn_ok (fc := fc.with (s₀.heap.objs.size + 3)) (hb _) F₅ g₁ k₅' (turn i' _ _ hdk hdk' _ _ hI) (fun fl s₆ hfl hA k₆ => ?_) (fun s₆ hA => ?_) fun u s₆ hf k₆ => hQ _ _ (hf.drop.pre k₀) (k₀.toHS.trans k₆)
    · have stays : ∀ {b : Addr} {o : Obj}, h₃.get? b = some o → (∀ es n, o.data ≠ .dict es n) → o.cls ≠ .type "list" → o.cls ≠ .none → s₆.heap.get? b = some o := by
        intro b o hb₃ hbd hbc hbn
        have hbo := kk₄ _ _ hb₃
        have hntb : ¬ Tb o := fun ⟨q, _⟩ => hbn q
        have hnm : b ∉ fc.L :: ads₁ := fun q => by
          rcases List.mem_cons.mp q with q | q
          · obtain ⟨m, ⟨o', es, ep, g1, g2, _⟩, _⟩ := F₄.env
            have g1 : h₄.get? fc.L = some o' := g1
            rw [← q] at g1
            have : o = o' := Option.some.inj (hbo.symm.trans g1)
            subst this; exact hbd _ _ g2
          · obtain ⟨_, o', _, _, g1, g2, _⟩ := F₄.own_mem q
            have : o = o' := Option.some.inj (hbo.symm.trans g1)
            subst this; exact hbc g2
        exact k₆.get (k₅.get hbo hntb hnm) hntb hnm
      have hTI₃ : IsPair h₃ (s₀.heap.objs.size + 2) (.ref s₀.heap.objs.size) (.ref (s₀.heap.objs.size + 1)) := (hs₃.2 _ D.TIz).trans (hk₂ _ _ D.TIz D.TITO D.TIi1 D.TIi2 hTI)
      obtain ⟨oi₂, hoi₂, hci₂, hdi₂⟩ := id hit₂
      obtain ⟨oi₂', hoi₂', hci₂', hdi₂'⟩ := id hit₂'
      have fin2 : ∃ m, m < ds.length + 1 - i' ∧ ∃ i'' : Nat, m = ds.length + 1 - i'' ∧ i'' ≤ ds.length ∧ At cx (fc.with (s₀.heap.objs.size + 3)) ns ads s₀.heap (I i'') s₆ ∧ IsZip s₆.heap (s₀.heap.objs.size + 4) (s₀.heap.objs.size + 2) (s₀.heap.objs.size + 3) .none ∧
          IsPair s₆.heap (s₀.heap.objs.size + 2) (.ref s₀.heap.objs.size) (.ref (s₀.heap.objs.size + 1)) ∧ (∃ q q', IsPair s₆.heap (s₀.heap.objs.size + 3) q q') ∧ s₆.heap.IsListIter s₀.heap.objs.size a i'' ∧ s₆.heap.IsListIter (s₀.heap.objs.size + 1) a' i'' :=
        ⟨ds.length + 1 - (i' + 1), by omega, i' + 1, rfl, by omega, hA, stays hZ₃ (fun _ _ q => by cases q) (by simp) (by simp), stays hTI₃ (fun _ _ q => by cases q) (by simp) (by simp), ⟨_, _, stays tTO₃ (fun _ _ q => by cases q) (by simp) (by simp)⟩,
          ⟨_, stays ((hs₃.2 _ D.i1z).trans hoi₂) (fun _ _ q => by rw [hdi₂] at q; cases q) (by rw [hci₂]; simp) (by rw [hci₂]; simp), hci₂, hdi₂⟩,
          ⟨_, stays ((hs₃.2 _ D.i2z).trans hoi₂') (fun _ _ q => by rw [hdi₂'] at q; cases q) (by rw [hci₂']; simp) (by rw [hci₂']; simp), hci₂', hdi₂'⟩⟩
      rcases hfl with rfl | rfl <;> exact fin2
    · obtain ⟨ρ₅, ads₅, σ₅, hn, F₆, g₆, k₇⟩ := hA.drop
      exact hQ .next _ ⟨_, _, _, hn, F₆, (Grow.refl _ _).trans k₀ g₆⟩ (k₀.toHS.trans k₇)
end Mine

namespace Mine
open PySem PySem.W PySem.Calls PyProof.Rows PySem.Spec
variable {cx : Cx}
variable {tx : Tx}

theorem SX_unpackS {fc : Fc} {ns : List Str} {e : Expr} {t : Tr} {elts : List Expr} {k : Nat} {tpos pos : Pos} {xs : List Str} {is : List Nat} {cs : Scope} (hcs : fc.cs = cs) (h : SE cx fc ns e t) (hxs : is.map (fun i => ns[i]?) = xs.map some)
    (ha : NameElts elts xs)
    (hs : swapsWithSole [.Tuple elts k tpos] e pos.line fc.env = pure false) (hw : swappedStores [.Tuple elts k tpos] e (envOf fc.cn cs fc.L fc.a fc.cd) = pure none) :
    SX1 cx fc ns (.Assign [.Tuple elts k tpos] e pos) (tUnpack is t) := by subst hcs; exact SX_unpack h hxs ha hs hw

theorem m_zz (hK : KK cx) : exmOne cx.K (.type "ZeroDivisionError") (.type "ZeroDivisionError") = some true := by rw [hK]; kernel_rfl
theorem m_cz (hK : KK cx) : exmOne cx.K (.ref 52) (.type "ZeroDivisionError") = some false := by rw [hK]; kernel_rfl
theorem m_cc (hK : KK cx) : exmOne cx.K (.ref 52) (.ref 52) = some true := by rw [hK]; kernel_rfl

/-- what a call of a def from the very top gives -/
def TopOK (cx : Cx) (f : Addr) (args : List PyData) (out : PyData) : Prop :=
  ∀ (s : Shared) (w : List Addr) (us : List Value) (R : Result → Shared → Prop), cx.K.In s.heap → TopRead cx.p cx.loose cx.mg cx.mb s.heap → cx.GI w s → Rds s.heap [] us args →
    (∀ u s' w', cx.GI w' s' → Rd s'.heap [] u out → R (.ok (.ret u)) s') → codeAny (model cx.prog cx.w) callerA (.call (.ref f) ⟨us, []⟩) R s

theorem top_ok {f : Addr} {rk n : Nat} {args : List PyData} {out : PyData} {name qual : Str} {params : Arguments} {body : List Stmt} {scope : Scope} {dV kV doc pm cdv ct oc : Value} {an od : Option Addr} {osl : Array (Option Value)}
    {K₀ : Frag} (xs : List Str) (ns : List Str) (hK₀ : cx.K = K₀)
    (ho : K₀.lookup f = some ⟨oc, od, .func (fnOf name qual params body scope dV kV doc pm an cdv ct), osl⟩) (hcd : codeIn K₀ cdv qual = true)
    (hb : ∀ (us : List Value) (s : Shared), us.length = args.length → cx.K.In s.heap → BindsTo s (fnOf name qual params body scope dV kV doc pm an cdv ct) ⟨us, []⟩ (xs.zip us))
    (hxl : xs.length = args.length) (hxn : ∀ (i : Nat) x, xs[i]? = some x → ns[i]? = some x) (hns : ∀ x ∈ ns, scope.names.lookup x = some .local) (hnd : ns.Nodup)
    (hk : scope.kind = .function) (hco : scope.isCoroutine = false) (hgen : scope.isGenerator = false) (hcell : ∀ x ∈ scope.names, x.2 ≠ .cell)
    (hr1 : 1 + claimMargin + 1 + rk < recursionLimit) (hr2 : 4 + 3 + 8 * rk + 100 < cLine)
    (hbody : ∀ fc : Fc, fc.cs = scope → fc.rk = rk → fc.cd = cdv → fc.outer = [] → fc.fb = [] → SX cx fc ns body tx)
    (hvc : tx (valSlots args n) [] (callPost (.ok out))) : TopOK cx f args out := by
  subst hK₀
  intro s w us R hin htop hgi ra hR
  have hul := ra.length
  have hxnd : xs.Nodup := by
    rw [List.nodup_iff_pairwise_ne, List.pairwise_iff_getElem]
    intro i j hi hj hij he
    have h1 := hxn i _ (List.getElem?_eq_getElem hi)
    have h2 := hxn j _ (List.getElem?_eq_getElem hj)
    obtain ⟨h3, h4⟩ := List.getElem?_eq_some_iff.mp h1
    obtain ⟨h5, h6⟩ := List.getElem?_eq_some_iff.mp h2
    rw [List.nodup_iff_pairwise_ne, List.pairwise_iff_getElem] at hnd
    exact hnd i j h3 h5 hij (h4.trans (he.trans h6.symm))
  have hroom : callerA.depth < recursionLimit := by show 1 + claimMargin < recursionLimit; omega
  refine codeAny_call_def (fd := fnOf name qual params body scope dV kV doc pm an cdv ct) (body := body) hroom (hin _ _ ho) rfl htop.nolimit (codeRec_of hin hcd) rfl (hb us s hul hin) hcell
    (fun y hy => hns _ (by
      obtain ⟨h1, _⟩ := List.of_mem_zip (show (y.1, y.2) ∈ xs.zip us from hy)
      obtain ⟨i, hi, he⟩ := List.getElem_of_mem h1
      exact List.mem_of_getElem? (hxn i _ (by rw [List.getElem?_eq_getElem hi, he])))) (fun h₀ hns₀ hk₀ => ?_) hco hgen hk
  have hk₀X : HX s.heap h₀ := HX.of_keep hk₀
  let fc' : Fc := { cn := qual, cs := scope, L := s.heap.objs.size, a := f, cd := cdv, outer := [], fb := [], dp := 1 + claimMargin + 1, un := 4 + 3, gd := some [], rk := rk }
  have hlow : cx.N ≤ s.heap.objs.size := cx.low _ _ hgi
  have F' : InFr cx fc' ns (valSlots args n) [] [] { s with heap := h₀, toks := s.toks + (xs.zip us).length } := by
    refine ⟨fun a o e => hk₀ _ _ (hin a o e), TopRead.mono htop hk₀X, ⟨w, cx.stable _ _ _ hgi rfl rfl fun b o e _ => hk₀ b o e⟩, ⟨_, hns₀, fun i x sl hi hsl => ?_⟩, hlow, ⟨rfl, List.nodup_nil, fun k a ds h => by simp at h⟩, ⟨hk, ?_, trivial⟩, fun x hx => (nomatch hx), hns, hnd, hk, hr1, hr2⟩
    · unfold valSlots at hsl
      by_cases hlt : i < args.length
      · rw [List.getElem?_append_left (by simpa using hlt), List.getElem?_map, List.getElem?_eq_getElem hlt] at hsl
        have : sl = .val args[i] := (Option.some.inj hsl).symm
        subst this
        obtain ⟨u, hu, ru⟩ := ra.get i _ (List.getElem?_eq_getElem hlt)
        have hxi : xs[i]? = some x := by
          have h1 : xs[i]? = some (xs[i]'(by omega)) := List.getElem?_eq_getElem (by omega)
          have h2 := hxn i _ h1
          rw [hi] at h2; rw [h1, Option.some.inj h2]
        refine ⟨u, zip_lookup hxnd (by rw [hxl, hul]) hxi hu, ru.mono fun b o vs n ho hd hx => ⟨hk₀ _ _ ho, fun q => ?_⟩⟩
        rcases List.mem_cons.mp q with q | q
        · exact absurd (Heap.lt_size ho) (by rw [q]; exact Nat.lt_irrefl _)
        · cases q
      · rw [List.getElem?_append_right (by simpa using hlt)] at hsl
        obtain ⟨h1, h2⟩ := List.getElem?_eq_some_iff.mp hsl
        rw [List.getElem_replicate] at h2
        subst h2; trivial
    · obtain ⟨o9, es, ep, h9, h10, _⟩ := hns₀
      exact ⟨_, o9, es, ep, rfl, hlow, h9, h10⟩
  refine (hbody fc' rfl rfl rfl rfl rfl) _ _ _ _ _ _ _ F' hvc (fun fl s' hf k' => ?_) fun x u s' ρ' ads' σ' hx F₂ g fl => by cases hx
  cases fl with
  | next =>
    obtain ⟨ρ₂, ads₂, σ₂, a1, a2, a3⟩ := hf
    obtain ⟨w', g'⟩ := a2.gi
    have : out = .none := Except.ok.inj a1
    subst this
    exact hR _ _ _ g' .none
  | brk => obtain ⟨ρ₂, ads₂, σ₂, a1, a2, a3⟩ := hf; exact a1.elim
  | cont => obtain ⟨ρ₂, ads₂, σ₂, a1, a2, a3⟩ := hf; exact a1.elim
  | ret u =>
    obtain ⟨ρ₂, ads₂, σ₂, d, a1, a2, a3, a4⟩ := hf
    obtain ⟨w', g'⟩ := a2.gi
    have : out = d := Except.ok.inj a1
    subst this
    exact hR _ _ _ g' (a4.mono fun b o vs n ho hd hx => ⟨ho, fun q => absurd q List.not_mem_nil⟩)
end Mine

namespace Mine
open PySem PySem.W PySem.Calls PyProof.Rows PySem.Spec
variable {cx : Cx}
def q_law_b1_5 (cx : Cx) : Tx := tSeq (tIf (tNotT (tTruth (tCall cx 9 366 (tCons (tOwnSub 3 (tName 5)) (tCons (tOwnSub 2 (tName 5)) tNil))))) (tSeq (tRet (tBool false))
  tSkip)
  tSkip)
  tSkip
def q_law_b1_4 (cx : Cx) : Tx := tSeq (tAppend 3 (tCall cx 9 88 (tCons (tName 7) (tCons (tName 8) (tCons (tName 1) (tCons (tName 9) tNil))))))
  (q_law_b1_5 cx)
theorem s_law_b1_4 {ρ σ P} (h : ∀ R : Tx, R = q_law_b1_5 cx → tSeq (tAppend 3 (tCall cx 9 88 (tCons (tName 7) (tCons (tName 8) (tCons (tName 1) (tCons (tName 9) tNil)))))) R ρ σ P) : q_law_b1_4 cx ρ σ P := h _ rfl
def q_law_b1_3 (cx : Cx) : Tx := tSeq (tAppend 2 (tCall cx 9 324 (tCons (tName 7) (tCons (tInt 1) (tCons (tName 8) (tCons (tName 1) (tCons (tName 9) tNil)))))))
  (q_law_b1_4 cx)
theorem s_law_b1_3 {ρ σ P} (h : ∀ R : Tx, R = q_law_b1_4 cx → tSeq (tAppend 2 (tCall cx 9 324 (tCons (tName 7) (tCons (tInt 1) (tCons (tName 8) (tCons (tName 1) (tCons (tName 9) tNil))))))) R ρ σ P) : q_law_b1_3 cx ρ σ P := h _ rfl
def q_law_b1_2 (cx : Cx) : Tx := tSeq (tSet 9 (tSub (tStr (Str.ofString "nfcud")) (tBin kMod (tBin kAdd (tName 6) (tName 5)) (tInt 5))))
  (q_law_b1_3 cx)
theorem s_law_b1_2 {ρ σ P} (h : ∀ R : Tx, R = q_law_b1_3 cx → tSeq (tSet 9 (tSub (tStr (Str.ofString "nfcud")) (tBin kMod (tBin kAdd (tName 6) (tName 5)) (tInt 5)))) R ρ σ P) : q_law_b1_2 cx ρ σ P := h _ rfl
def q_law_b1_1 (cx : Cx) : Tx := tSeq (tSet 8 (tIfE (tTruth (tBin kMod (tName 6) (tInt 2))) (tBin kSub (tBin kMod (tBin kAdd (tBin kDiv (tName 6) (tInt 3)) (tBin kMul (tInt 50) (tName 5))) (tInt 401)) (tInt 200)) (tBin kSub (tBin kMod (tName 6) (tInt 9)) (tInt 4))))
  (q_law_b1_2 cx)
theorem s_law_b1_1 {ρ σ P} (h : ∀ R : Tx, R = q_law_b1_2 cx → tSeq (tSet 8 (tIfE (tTruth (tBin kMod (tName 6) (tInt 2))) (tBin kSub (tBin kMod (tBin kAdd (tBin kDiv (tName 6) (tInt 3)) (tBin kMul (tInt 50) (tName 5))) (tInt 401)) (tInt 200)) (tBin kSub (tBin kMod (tName 6) (tInt 9)) (tInt 4)))) R ρ σ P) : q_law_b1_1 cx ρ σ P := h _ rfl
def q_law_b1 (cx : Cx) : Tx := tSeq (tSet 7 (tIfE (tTest (tBin kLt (tB kAbs (tCons (tName 6) tNil)) (tBin kShl (tInt 1) (tInt 90)))) (tName 6) (tBin kMod (tName 6) (tBin kShl (tInt 1) (tInt 90)))))
  (q_law_b1_1 cx)
theorem s_law_b1 {ρ σ P} (h : ∀ R : Tx, R = q_law_b1_1 cx → tSeq (tSet 7 (tIfE (tTest (tBin kLt (tB kAbs (tCons (tName 6) tNil)) (tBin kShl (tInt 1) (tInt 90)))) (tName 6) (tBin kMod (tName 6) (tBin kShl (tInt 1) (tInt 90))))) R ρ σ P) : q_law_b1 cx ρ σ P := h _ rfl
def q_law_b2_9 (cx : Cx) : Tx := tSeq (tSubs2 2 3 (tTup (tCons (tName 15) (tCons (tName 16) tNil))) (tName 14) (tName 14))
  tSkip
def q_law_b2_8 (cx : Cx) : Tx := tSeq (tIf (tTest (tBin kGt (tB kAbs (tCons (tName 17) tNil)) (tInt 300))) (tSeq (tUnpack [18, 19] (tCall cx 9 276 (tCons (tName 16) tNil)))
  (tSeq (tIf (tOrT (tTest (tBin kNe (tName 19) (tName 17))) (tOrT (tTest (tBin kNe (tCall cx 9 269 (tCons (tName 18) (tCons (tName 19) tNil))) (tName 16))) tFalse)) (tSeq (tRet (tBool false))
  tSkip)
  tSkip)
  (tSeq (tSet 15 (tTup (tCons (tSub (tName 15) (tInt 0)) (tCons (tBin kSub (tSub (tName 15) (tInt 1)) (tName 17)) tNil))))
  (tSeq (tSet 16 (tName 18))
  (tSeq (tIf (tNotT (tTruth (tCall cx 9 366 (tCons (tName 16) (tCons (tName 15) tNil))))) (tSeq (tRet (tBool false))
  tSkip)
  tSkip)
  tSkip)))))
  tSkip)
  (q_law_b2_9 cx)
theorem s_law_b2_8 {ρ σ P} (h : ∀ R : Tx, R = q_law_b2_9 cx → tSeq (tIf (tTest (tBin kGt (tB kAbs (tCons (tName 17) tNil)) (tInt 300))) (tSeq (tUnpack [18, 19] (tCall cx 9 276 (tCons (tName 16) tNil)))
  (tSeq (tIf (tOrT (tTest (tBin kNe (tName 19) (tName 17))) (tOrT (tTest (tBin kNe (tCall cx 9 269 (tCons (tName 18) (tCons (tName 19) tNil))) (tName 16))) tFalse)) (tSeq (tRet (tBool false))
  tSkip)
  tSkip)
  (tSeq (tSet 15 (tTup (tCons (tSub (tName 15) (tInt 0)) (tCons (tBin kSub (tSub (tName 15) (tInt 1)) (tName 17)) tNil))))
  (tSeq (tSet 16 (tName 18))
  (tSeq (tIf (tNotT (tTruth (tCall cx 9 366 (tCons (tName 16) (tCons (tName 15) tNil))))) (tSeq (tRet (tBool false))
  tSkip)
  tSkip)
  tSkip)))))
  tSkip) R ρ σ P) : q_law_b2_8 cx ρ σ P := h _ rfl
def q_law_b2_7 (cx : Cx) : Tx := tSeq (tSet 17 (tBin kAdd (tSub (tName 15) (tInt 1)) (tBl (tB kAbs (tCons (tSub (tName 15) (tInt 0)) tNil)))))
  (q_law_b2_8 cx)
theorem s_law_b2_7 {ρ σ P} (h : ∀ R : Tx, R = q_law_b2_8 cx → tSeq (tSet 17 (tBin kAdd (tSub (tName 15) (tInt 1)) (tBl (tB kAbs (tCons (tSub (tName 15) (tInt 0)) tNil))))) R ρ σ P) : q_law_b2_7 cx ρ σ P := h _ rfl
def q_law_b2_6 (cx : Cx) : Tx := tSeq (tIf (tNotT (tTruth (tCall cx 9 366 (tCons (tName 16) (tCons (tName 15) tNil))))) (tSeq (tRet (tBool false))
  tSkip)
  tSkip)
  (q_law_b2_7 cx)
theorem s_law_b2_6 {ρ σ P} (h : ∀ R : Tx, R = q_law_b2_7 cx → tSeq (tIf (tNotT (tTruth (tCall cx 9 366 (tCons (tName 16) (tCons (tName 15) tNil))))) (tSeq (tRet (tBool false))
  tSkip)
  tSkip) R ρ σ P) : q_law_b2_6 cx ρ σ P := h _ rfl
def q_law_b2_5 (cx : Cx) : Tx := tSeq (tIf (tOrT (tTypeIs "str" (tName 15)) (tOrT (tTypeIs "str" (tName 16)) tFalse)) (tSeq (tIf (tTest (tBin kNe (tName 15) (tName 16))) (tSeq (tRet (tBool false))
  tSkip)
  tSkip)
  (tSeq tCont
  tSkip))
  tSkip)
  (q_law_b2_6 cx)
theorem s_law_b2_5 {ρ σ P} (h : ∀ R : Tx, R = q_law_b2_6 cx → tSeq (tIf (tOrT (tTypeIs "str" (tName 15)) (tOrT (tTypeIs "str" (tName 16)) tFalse)) (tSeq (tIf (tTest (tBin kNe (tName 15) (tName 16))) (tSeq (tRet (tBool false))
  tSkip)
  tSkip)
  (tSeq tCont
  tSkip))
  tSkip) R ρ σ P) : q_law_b2_5 cx ρ σ P := h _ rfl
def q_law_b2_4 (cx : Cx) : Tx := tSeq (tTry2 16 (tCall cx 9 359 (tCons (tName 10) (tCons (tOwnSub 3 (tName 12)) (tCons (tOwnSub 3 (tName 13)) (tCons (tOwnSub 3 (tName 14)) (tCons (tName 11) (tCons (tName 1) (tCons (tName 9) tNil)))))))) (Str.ofString "over nothing") (Str.ofString "no root"))
  (q_law_b2_5 cx)
theorem s_law_b2_4 {ρ σ P} (h : ∀ R : Tx, R = q_law_b2_5 cx → tSeq (tTry2 16 (tCall cx 9 359 (tCons (tName 10) (tCons (tOwnSub 3 (tName 12)) (tCons (tOwnSub 3 (tName 13)) (tCons (tOwnSub 3 (tName 14)) (tCons (tName 11) (tCons (tName 1) (tCons (tName 9) tNil)))))))) (Str.ofString "over nothing") (Str.ofString "no root")) R ρ σ P) : q_law_b2_4 cx ρ σ P := h _ rfl
def q_law_b2_3 (cx : Cx) : Tx := tSeq (tSet 15 (tCall cx 9 352 (tCons (tName 10) (tCons (tOwnSub 2 (tName 12)) (tCons (tOwnSub 2 (tName 13)) (tCons (tOwnSub 2 (tName 14)) (tCons (tName 11) (tCons (tName 1) (tCons (tName 9) tNil)))))))))
  (q_law_b2_4 cx)
theorem s_law_b2_3 {ρ σ P} (h : ∀ R : Tx, R = q_law_b2_4 cx → tSeq (tSet 15 (tCall cx 9 352 (tCons (tName 10) (tCons (tOwnSub 2 (tName 12)) (tCons (tOwnSub 2 (tName 13)) (tCons (tOwnSub 2 (tName 14)) (tCons (tName 11) (tCons (tName 1) (tCons (tName 9) tNil))))))))) R ρ σ P) : q_law_b2_3 cx ρ σ P := h _ rfl
def q_law_b2_2 (cx : Cx) : Tx := tSeq (tIf (tAndT (tTest (tBin kEq (tName 10) (tInt 4))) (tAndT (tTest (tBin kEq (tSub (tOwnSub 2 (tName 13)) (tInt 0)) (tInt 0))) tTrue)) (tSeq (tSet 10 (tInt 7))
  tSkip)
  tSkip)
  (q_law_b2_3 cx)
theorem s_law_b2_2 {ρ σ P} (h : ∀ R : Tx, R = q_law_b2_3 cx → tSeq (tIf (tAndT (tTest (tBin kEq (tName 10) (tInt 4))) (tAndT (tTest (tBin kEq (tSub (tOwnSub 2 (tName 13)) (tInt 0)) (tInt 0))) tTrue)) (tSeq (tSet 10 (tInt 7))
  tSkip)
  tSkip) R ρ σ P) : q_law_b2_2 cx ρ σ P := h _ rfl
def q_law_b2_1 (cx : Cx) : Tx := tSeq (tUnpackR [12, 13, 14] (tTup (tCons (tBin kMod (tBin kAdd (tBin kDiv (tName 6) (tInt 95)) (tName 5)) (tInt 5)) (tCons (tBin kMod (tBin kAdd (tBin kAdd (tBin kDiv (tName 6) (tInt 475)) (tBin kMul (tInt 2) (tName 5))) (tInt 1)) (tInt 5)) (tCons (tBin kMod (tBin kAdd (tBin kAdd (tBin kDiv (tName 6) (tInt 2375)) (tBin kMul (tInt 3) (tName 5))) (tInt 2)) (tInt 5)) tNil)))))
  (q_law_b2_2 cx)
theorem s_law_b2_1 {ρ σ P} (h : ∀ R : Tx, R = q_law_b2_2 cx → tSeq (tUnpackR [12, 13, 14] (tTup (tCons (tBin kMod (tBin kAdd (tBin kDiv (tName 6) (tInt 95)) (tName 5)) (tInt 5)) (tCons (tBin kMod (tBin kAdd (tBin kAdd (tBin kDiv (tName 6) (tInt 475)) (tBin kMul (tInt 2) (tName 5))) (tInt 1)) (tInt 5)) (tCons (tBin kMod (tBin kAdd (tBin kAdd (tBin kDiv (tName 6) (tInt 2375)) (tBin kMul (tInt 3) (tName 5))) (tInt 2)) (tInt 5)) tNil))))) R ρ σ P) : q_law_b2_1 cx ρ σ P := h _ rfl
def q_law_b2 (cx : Cx) : Tx := tSeq (tUnpackR [10, 9, 11] (tTup (tCons (tBin kMod (tName 6) (tInt 19)) (tCons (tSub (tStr (Str.ofString "nfcud")) (tBin kMod (tBin kAdd (tBin kDiv (tName 6) (tInt 19)) (tName 5)) (tInt 5))) (tCons (tBin kAdd (tBin kDiv (tName 6) (tInt 7)) (tName 5)) tNil)))))
  (q_law_b2_1 cx)
theorem s_law_b2 {ρ σ P} (h : ∀ R : Tx, R = q_law_b2_1 cx → tSeq (tUnpackR [10, 9, 11] (tTup (tCons (tBin kMod (tName 6) (tInt 19)) (tCons (tSub (tStr (Str.ofString "nfcud")) (tBin kMod (tBin kAdd (tBin kDiv (tName 6) (tInt 19)) (tName 5)) (tInt 5))) (tCons (tBin kAdd (tBin kDiv (tName 6) (tInt 7)) (tName 5)) tNil))))) R ρ σ P) : q_law_b2 cx ρ σ P := h _ rfl
def q_law_b4_4 (cx : Cx) : Tx := tSeq (tIf (tTest (tBin kNe (tList (tCons (tCall cx 9 163 (tCons (tName 23) (tCons (tName 27) tNil))) (tCons (tCall cx 9 170 (tCons (tName 23) (tCons (tName 27) tNil))) (tCons (tCall cx 9 177 (tCons (tName 23) (tCons (tName 27) tNil))) (tCons (tCall cx 9 184 (tCons (tName 23) (tCons (tName 27) tNil))) tNil))))) (tList (tCons (tBin kLt (tName 28) (tInt 0)) (tCons (tBin kLe (tName 28) (tInt 0)) (tCons (tBin kGt (tName 28) (tInt 0)) (tCons (tBin kGe (tName 28) (tInt 0)) tNil))))))) (tSeq (tRet (tBool false))
  tSkip)
  tSkip)
  tSkip
def q_law_b4_3 (cx : Cx) : Tx := tSeq (tIf (tOrT (tTest (tBin kNe (tCall cx 9 156 (tCons (tName 23) (tCons (tName 27) tNil))) (tIfE (tTest (tBin kGt (tName 28) (tInt 0))) (tInt 1) (tIfE (tTest (tBin kLt (tName 28) (tInt 0))) (tNeg (tInt 1)) (tInt 0))))) (tOrT (tTest (tBin kNe (tCall cx 9 149 (tCons (tName 23) (tCons (tName 27) tNil))) (tBin kEq (tName 28) (tInt 0)))) tFalse)) (tSeq (tRet (tBool false))
  tSkip)
  tSkip)
  (q_law_b4_4 cx)
theorem s_law_b4_3 {ρ σ P} (h : ∀ R : Tx, R = q_law_b4_4 cx → tSeq (tIf (tOrT (tTest (tBin kNe (tCall cx 9 156 (tCons (tName 23) (tCons (tName 27) tNil))) (tIfE (tTest (tBin kGt (tName 28) (tInt 0))) (tInt 1) (tIfE (tTest (tBin kLt (tName 28) (tInt 0))) (tNeg (tInt 1)) (tInt 0))))) (tOrT (tTest (tBin kNe (tCall cx 9 149 (tCons (tName 23) (tCons (tName 27) tNil))) (tBin kEq (tName 28) (tInt 0)))) tFalse)) (tSeq (tRet (tBool false))
  tSkip)
  tSkip) R ρ σ P) : q_law_b4_3 cx ρ σ P := h _ rfl
def q_law_b4_2 (cx : Cx) : Tx := tSeq (tAug 25 kAdd (tIfE (tTest (tBin kLe (tName 28) (tInt 0))) (tInt 1) (tInt 0)))
  (q_law_b4_3 cx)
theorem s_law_b4_2 {ρ σ P} (h : ∀ R : Tx, R = q_law_b4_3 cx → tSeq (tAug 25 kAdd (tIfE (tTest (tBin kLe (tName 28) (tInt 0))) (tInt 1) (tInt 0))) R ρ σ P) : q_law_b4_2 cx ρ σ P := h _ rfl
def q_law_b4_1 (cx : Cx) : Tx := tSeq (tAug 24 kAdd (tIfE (tTest (tBin kGe (tName 28) (tInt 0))) (tInt 1) (tInt 0)))
  (q_law_b4_2 cx)
theorem s_law_b4_1 {ρ σ P} (h : ∀ R : Tx, R = q_law_b4_2 cx → tSeq (tAug 24 kAdd (tIfE (tTest (tBin kGe (tName 28) (tInt 0))) (tInt 1) (tInt 0))) R ρ σ P) : q_law_b4_1 cx ρ σ P := h _ rfl
def q_law_b4 (cx : Cx) : Tx := tSeq (tSet 28 (tSub (tCall cx 9 338 (tCons (tName 22) (tCons (tTup (tCons (tNeg (tSub (tName 26) (tInt 0))) (tCons (tSub (tName 26) (tInt 1)) tNil))) tNil))) (tInt 0)))
  (q_law_b4_1 cx)
theorem s_law_b4 {ρ σ P} (h : ∀ R : Tx, R = q_law_b4_1 cx → tSeq (tSet 28 (tSub (tCall cx 9 338 (tCons (tName 22) (tCons (tTup (tCons (tNeg (tSub (tName 26) (tInt 0))) (tCons (tSub (tName 26) (tInt 1)) tNil))) tNil))) (tInt 0))) R ρ σ P) : q_law_b4 cx ρ σ P := h _ rfl
def q_law_b3_3 (cx : Cx) : Tx := tSeq (tIf (tTest (tBin kNe (tCall cx 9 142 (tCons (tName 23) tNil)) (tIfE (tTest (tBin kGe (tSub (tName 22) (tInt 1)) (tInt 0))) (tTup (tCons (tBin kShl (tSub (tName 22) (tInt 0)) (tSub (tName 22) (tInt 1))) (tCons (tInt 1) tNil))) (tTup (tCons (tSub (tName 22) (tInt 0)) (tCons (tBin kShl (tInt 1) (tNeg (tSub (tName 22) (tInt 1)))) tNil)))))) (tSeq (tRet (tBool false))
  tSkip)
  tSkip)
  tSkip
def q_law_b3_2 (cx : Cx) : Tx := tSeq (tIf (tOrT (tAndT (tTest (tBin kEq (tName 24) (tInt 5))) (tAndT (tTest (tBin kNe (tName 21) (tName 23))) tTrue)) (tOrT (tAndT (tTest (tBin kEq (tName 25) (tInt 5))) (tAndT (tTest (tBin kNe (tName 20) (tName 23))) tTrue)) tFalse)) (tSeq (tRet (tBool false))
  tSkip)
  tSkip)
  (q_law_b3_3 cx)
theorem s_law_b3_2 {ρ σ P} (h : ∀ R : Tx, R = q_law_b3_3 cx → tSeq (tIf (tOrT (tAndT (tTest (tBin kEq (tName 24) (tInt 5))) (tAndT (tTest (tBin kNe (tName 21) (tName 23))) tTrue)) (tOrT (tAndT (tTest (tBin kEq (tName 25) (tInt 5))) (tAndT (tTest (tBin kNe (tName 20) (tName 23))) tTrue)) tFalse)) (tSeq (tRet (tBool false))
  tSkip)
  tSkip) R ρ σ P) : q_law_b3_2 cx ρ σ P := h _ rfl
def q_law_b3_1 (cx : Cx) : Tx := tSeq (tForZip 26 27 (tCons (tName 2) (tCons (tName 3) tNil))
  (q_law_b4 cx))
  (q_law_b3_2 cx)
theorem s_law_b3_1 {ρ σ P} (h : ∀ R : Tx, R = q_law_b3_2 cx → tSeq (tForZip 26 27 (tCons (tName 2) (tCons (tName 3) tNil))
  (q_law_b4 cx)) R ρ σ P) : q_law_b3_1 cx ρ σ P := h _ rfl
def q_law_b3 (cx : Cx) : Tx := tSeq (tUnpack [24, 25] (tTup (tCons (tInt 0) (tCons (tInt 0) tNil))))
  (q_law_b3_1 cx)
theorem s_law_b3 {ρ σ P} (h : ∀ R : Tx, R = q_law_b3_1 cx → tSeq (tUnpack [24, 25] (tTup (tCons (tInt 0) (tCons (tInt 0) tNil)))) R ρ σ P) : q_law_b3 cx ρ σ P := h _ rfl
def q_law_7 (cx : Cx) : Tx := tSeq (tRet (tBool true))
  tSkip
def q_law_6 (cx : Cx) : Tx := tSeq (tForZip 22 23 (tCons (tName 2) (tCons (tName 3) tNil))
  (q_law_b3 cx))
  (q_law_7 cx)
theorem s_law_6 {ρ σ P} (h : ∀ R : Tx, R = (q_law_7 cx) → tSeq (tForZip 22 23 (tCons (tName 2) (tCons (tName 3) tNil))
  (q_law_b3 cx)) R ρ σ P) : q_law_6 cx ρ σ P := h _ rfl
def q_law_5 (cx : Cx) : Tx := tSeq (tUnpack [20, 21] (tCall cx 9 191 (tCons (tName 3) tNil)))
  (q_law_6 cx)
theorem s_law_5 {ρ σ P} (h : ∀ R : Tx, R = (q_law_6 cx) → tSeq (tUnpack [20, 21] (tCall cx 9 191 (tCons (tName 3) tNil))) R ρ σ P) : q_law_5 cx ρ σ P := h _ rfl
def q_law_4 (cx : Cx) : Tx := tSeq (tForEnum 5 6 (tCutTo (tName 0) (tInt 24))
  (q_law_b2 cx))
  (tFrz (q_law_5 cx))
theorem s_law_4 {ρ σ P} (h : ∀ R : Tx, R = (tFrz (q_law_5 cx)) → tSeq (tForEnum 5 6 (tCutTo (tName 0) (tInt 24))
  (q_law_b2 cx)) R ρ σ P) : q_law_4 cx ρ σ P := h _ rfl
def q_law_3 (cx : Cx) : Tx := tSeq (tForEnum 5 6 (tName 4)
  (q_law_b1 cx))
  (q_law_4 cx)
theorem s_law_3 {ρ σ P} (h : ∀ R : Tx, R = (q_law_4 cx) → tSeq (tForEnum 5 6 (tName 4)
  (q_law_b1 cx)) R ρ σ P) : q_law_3 cx ρ σ P := h _ rfl
def q_law_2 (cx : Cx) : Tx := tSeq (tSet 4 (tCutTo (tBin kAddL (tCutTo (tName 0) (tInt 5)) (tList (tCons (tInt 7) (tCons (tNeg (tInt 5)) (tCons (tInt 3) (tCons (tInt 1000) (tCons (tNeg (tInt 1)) tNil))))))) (tInt 5)))
  (q_law_3 cx)
theorem s_law_2 {ρ σ P} (h : ∀ R : Tx, R = (q_law_3 cx) → tSeq (tSet 4 (tCutTo (tBin kAddL (tCutTo (tName 0) (tInt 5)) (tList (tCons (tInt 7) (tCons (tNeg (tInt 5)) (tCons (tInt 3) (tCons (tInt 1000) (tCons (tNeg (tInt 1)) tNil))))))) (tInt 5))) R ρ σ P) : q_law_2 cx ρ σ P := h _ rfl
def q_law_1 (cx : Cx) : Tx := tSeq (tTwo 2 3)
  (q_law_2 cx)
theorem s_law_1 {ρ σ P} (h : ∀ R : Tx, R = (q_law_2 cx) → tSeq (tTwo 2 3) R ρ σ P) : q_law_1 cx ρ σ P := h _ rfl
def q_law (cx : Cx) : Tx := tSeq (tSet 1 (tBin kAdd (tInt 1) (tBin kMod (tIfE (tTruthL (tName 0)) (tSub (tName 0) (tInt 0)) (tInt 9)) (tInt 32))))
  (q_law_1 cx)
theorem s_law {ρ σ P} (h : ∀ R : Tx, R = (q_law_1 cx) → tSeq (tSet 1 (tBin kAdd (tInt 1) (tBin kMod (tIfE (tTruthL (tName 0)) (tSub (tName 0) (tInt 0)) (tInt 9)) (tInt 32)))) R ρ σ P) : q_law cx ρ σ P := h _ rfl
abbrev ns_law : List Str := [Str.ofString "script", Str.ofString "bits", Str.ofString "plain", Str.ofString "desk", Str.ofString "starts", Str.ofString "t", Str.ofString "x", Str.ofString "m", Str.ofString "e", Str.ofString "way", Str.ofString "kind", Str.ofString "n", Str.ofString "i", Str.ofString "j", Str.ofString "k", Str.ofString "want", Str.ofString "got", Str.ofString "far", Str.ofString "near", Str.ofString "steps", Str.ofString "least", Str.ofString "greatest", Str.ofString "v", Str.ofString "a", Str.ofString "over", Str.ofString "under", Str.ofString "w", Str.ofString "b", Str.ofString "d"]
set_option maxHeartbeats 8000000 in
theorem w_law (hK : KK cx) {args : List PyData} {out : PyData} (hl : args.length = 1) (hvc : q_law cx (valSlots args 28) [] (callPost (.ok out))) : TopOK cx 373 args out := by
  refine top_ok (rk := 9) (n := 28) (tx := q_law cx) [Str.ofString "script"] ns_law hK rfl (by kernel_rfl) (fun us s hu hk => ?_) (by rw [hl]; rfl) (fun i x h => ?_) (by decide +kernel) (by decide +kernel) rfl rfl rfl (by decide) (by decide) (by decide) (fun fc hcs hrk hcd hout hfb => ?_) hvc
  · rw [hl] at hu
    obtain ⟨u0, rfl⟩ := len_1 hu
    exact BindsTo.of_eq rfl
  · exact nth_sub (by decide +kernel) h
  · have hint : interactive fc.env = false := by show interactive (envOf fc.cn fc.cs fc.L fc.a fc.cd) = false; rw [hcs]; rfl
    have l_abs : fc.cs.names.lookup (Str.ofString "abs") = some .globalImplicit := by rw [hcs]; rfl
    have l_law_round : fc.cs.names.lookup (Str.ofString "_law_round") = some .globalImplicit := by rw [hcs]; rfl
    have l_from_man_exp : fc.cs.names.lookup (Str.ofString "from_man_exp") = some .globalImplicit := by rw [hcs]; rfl
    have l_law_same : fc.cs.names.lookup (Str.ofString "_law_same") = some .globalImplicit := by rw [hcs]; rfl
    have l_enumerate : fc.cs.names.lookup (Str.ofString "enumerate") = some .globalImplicit := by rw [hcs]; rfl
    have l_law_plain : fc.cs.names.lookup (Str.ofString "_law_plain") = some .globalImplicit := by rw [hcs]; rfl
    have l_law_pack : fc.cs.names.lookup (Str.ofString "_law_pack") = some .globalImplicit := by rw [hcs]; rfl
    have l_ZeroDivisionError : fc.cs.names.lookup (Str.ofString "ZeroDivisionError") = some .globalImplicit := by rw [hcs]; rfl
    have l_ComplexResult : fc.cs.names.lookup (Str.ofString "ComplexResult") = some .globalImplicit := by rw [hcs]; rfl
    have l_type : fc.cs.names.lookup (Str.ofString "type") = some .globalImplicit := by rw [hcs]; rfl
    have l_str : fc.cs.names.lookup (Str.ofString "str") = some .globalImplicit := by rw [hcs]; rfl
    have l_mpf_shift : fc.cs.names.lookup (Str.ofString "mpf_shift") = some .globalImplicit := by rw [hcs]; rfl
    have l_mpf_frexp : fc.cs.names.lookup (Str.ofString "mpf_frexp") = some .globalImplicit := by rw [hcs]; rfl
    have l_mpf_min_max : fc.cs.names.lookup (Str.ofString "mpf_min_max") = some .globalImplicit := by rw [hcs]; rfl
    have l_law_plus : fc.cs.names.lookup (Str.ofString "_law_plus") = some .globalImplicit := by rw [hcs]; rfl
    have l_mpf_eq : fc.cs.names.lookup (Str.ofString "mpf_eq") = some .globalImplicit := by rw [hcs]; rfl
    have l_mpf_cmp : fc.cs.names.lookup (Str.ofString "mpf_cmp") = some .globalImplicit := by rw [hcs]; rfl
    have l_mpf_ge : fc.cs.names.lookup (Str.ofString "mpf_ge") = some .globalImplicit := by rw [hcs]; rfl
    have l_mpf_gt : fc.cs.names.lookup (Str.ofString "mpf_gt") = some .globalImplicit := by rw [hcs]; rfl
    have l_mpf_le : fc.cs.names.lookup (Str.ofString "mpf_le") = some .globalImplicit := by rw [hcs]; rfl
    have l_mpf_lt : fc.cs.names.lookup (Str.ofString "mpf_lt") = some .globalImplicit := by rw [hcs]; rfl
    have l_zip : fc.cs.names.lookup (Str.ofString "zip") = some .globalImplicit := by rw [hcs]; rfl
    have l_to_rational : fc.cs.names.lookup (Str.ofString "to_rational") = some .globalImplicit := by rw [hcs]; rfl
    exact (SX_cons (SX_set (i := 1) rfl (SE_bin b_add SE_int (SE_bin b_mod (SE_if (ST_list (SE_name (i := 0) rfl)) (SE_sub (SE_name (i := 0) rfl) SE_int (fun _ _ => rfl)) SE_int) SE_int)))
  (SX_cons (SX_two (i := 2) (j := 3) hcs rfl rfl rfl rfl)
  (SX_cons (SX_set (i := 4) rfl (SE_cutToT (SE_bin b_addL (SE_cutTo (SE_name (i := 0) rfl) SE_int) (SE_list (SEs_cons SE_int (SEs_cons (SE_neg SE_int) (SEs_cons SE_int (SEs_cons SE_int (SEs_cons (SE_neg SE_int) SEs_nil))))))) SE_int))
  (SX_cons (SX_forEnum (i := 5) (j := 6) rfl rfl l_enumerate (n_enumerate hK) (SE_name (i := 4) rfl)
  (SX_cons (SX_set (i := 7) rfl (SE_if (ST_cmp c_lt (SE_bcall l_abs (n_abs hK) Boot.«abs» bc_abs (SEs_cons (SE_name (i := 6) rfl) SEs_nil)) (SE_bin b_shl SE_int SE_int) rfl) (SE_name (i := 6) rfl) (SE_bin b_mod (SE_name (i := 6) rfl) (SE_bin b_shl SE_int SE_int))))
  (SX_cons (SX_set (i := 8) rfl (SE_if (ST_val (SE_bin b_mod (SE_name (i := 6) rfl) SE_int)) (SE_bin b_sub (SE_bin b_mod (SE_bin b_add (SE_bin b_div (SE_name (i := 6) rfl) SE_int) (SE_bin b_mul SE_int (SE_name (i := 5) rfl))) SE_int) SE_int) (SE_bin b_sub (SE_bin b_mod (SE_name (i := 6) rfl) SE_int) SE_int)))
  (SX_cons (SX_set (i := 9) rfl (SE_sub SE_str (SE_bin b_mod (SE_bin b_add (SE_name (i := 6) rfl) (SE_name (i := 5) rfl)) SE_int) (fun _ _ => rfl)))
  (SX_cons (SX_append (i := 2) rfl (SE_callR (n := 9) l_law_round (g_l_round hK) hK rfl hrk (SEs_cons (SE_name (i := 7) rfl) (SEs_cons SE_int (SEs_cons (SE_name (i := 8) rfl) (SEs_cons (SE_name (i := 1) rfl) (SEs_cons (SE_name (i := 9) rfl) SEs_nil)))))) (by decide) rfl rfl rfl rfl hint rfl)
  (SX_cons (SX_append (i := 3) rfl (SE_callR (n := 9) l_from_man_exp (g_from_man_exp hK) hK rfl hrk (SEs_cons (SE_name (i := 7) rfl) (SEs_cons (SE_name (i := 8) rfl) (SEs_cons (SE_name (i := 1) rfl) (SEs_cons (SE_name (i := 9) rfl) SEs_nil))))) (by decide) rfl rfl rfl rfl hint rfl)
  (SX_cons (SX_if (ST_not (ST_val (SE_callR (n := 9) l_law_same (g_l_same hK) hK rfl hrk (SEs_cons (SE_ownSub (i := 3) rfl (SE_name (i := 5) rfl) (fun _ _ => rfl)) (SEs_cons (SE_ownSub (i := 2) rfl (SE_name (i := 5) rfl) (fun _ _ => rfl)) SEs_nil))))) (SX_cons (SX_ret SE_bool)
  SX_nil)
  SX_nil)
  SX_nil)))))))
  (SX_cons (SX_forEnum (i := 5) (j := 6) rfl rfl l_enumerate (n_enumerate hK) (SE_cutTo (SE_name (i := 0) rfl) SE_int)
  (SX_cons (SX_swap (xs := [Str.ofString "kind", Str.ofString "way", Str.ofString "n"]) hcs (SE_tup (SEs_cons (SE_bin b_mod (SE_name (i := 6) rfl) SE_int) (SEs_cons (SE_sub SE_str (SE_bin b_mod (SE_bin b_add (SE_bin b_div (SE_name (i := 6) rfl) SE_int) (SE_name (i := 5) rfl)) SE_int) (fun _ _ => rfl)) (SEs_cons (SE_bin b_add (SE_bin b_div (SE_name (i := 6) rfl) SE_int) (SE_name (i := 5) rfl)) SEs_nil)))) rfl rfl rfl)
  (SX_cons (SX_swap (xs := [Str.ofString "i", Str.ofString "j", Str.ofString "k"]) hcs (SE_tup (SEs_cons (SE_bin b_mod (SE_bin b_add (SE_bin b_div (SE_name (i := 6) rfl) SE_int) (SE_name (i := 5) rfl)) SE_int) (SEs_cons (SE_bin b_mod (SE_bin b_add (SE_bin b_add (SE_bin b_div (SE_name (i := 6) rfl) SE_int) (SE_bin b_mul SE_int (SE_name (i := 5) rfl))) SE_int) SE_int) (SEs_cons (SE_bin b_mod (SE_bin b_add (SE_bin b_add (SE_bin b_div (SE_name (i := 6) rfl) SE_int) (SE_bin b_mul SE_int (SE_name (i := 5) rfl))) SE_int) SE_int) SEs_nil)))) rfl rfl rfl)
  (SX_cons (SX_if (ST_bool (STs_and_cons (ST_cmp c_eq (SE_name (i := 10) rfl) SE_int rfl) (STs_and_cons (ST_cmp c_eq (SE_sub (SE_ownSub (i := 2) rfl (SE_name (i := 13) rfl) (fun _ _ => rfl)) SE_int (fun _ _ => rfl)) SE_int rfl) STs_and_nil))) (SX_cons (SX_set (i := 10) rfl SE_int)
  SX_nil)
  SX_nil)
  (SX_cons (SX_set (i := 15) rfl (SE_callR (n := 9) l_law_plain (g_l_plain hK) hK rfl hrk (SEs_cons (SE_name (i := 10) rfl) (SEs_cons (SE_ownSub (i := 2) rfl (SE_name (i := 12) rfl) (fun _ _ => rfl)) (SEs_cons (SE_ownSub (i := 2) rfl (SE_name (i := 13) rfl) (fun _ _ => rfl)) (SEs_cons (SE_ownSub (i := 2) rfl (SE_name (i := 14) rfl) (fun _ _ => rfl)) (SEs_cons (SE_name (i := 11) rfl) (SEs_cons (SE_name (i := 1) rfl) (SEs_cons (SE_name (i := 9) rfl) SEs_nil)))))))))
  (SX_cons (SX_try2 (i := 16) rfl hout l_ZeroDivisionError (n_ZeroDivisionError hK) excClass_ZeroDivisionError.boot l_ComplexResult (g_ComplexResult hK) (m_zz hK) (m_cz hK) (m_cc hK) (SE_callR (n := 9) l_law_pack (g_l_pack hK) hK rfl hrk (SEs_cons (SE_name (i := 10) rfl) (SEs_cons (SE_ownSub (i := 3) rfl (SE_name (i := 12) rfl) (fun _ _ => rfl)) (SEs_cons (SE_ownSub (i := 3) rfl (SE_name (i := 13) rfl) (fun _ _ => rfl)) (SEs_cons (SE_ownSub (i := 3) rfl (SE_name (i := 14) rfl) (fun _ _ => rfl)) (SEs_cons (SE_name (i := 11) rfl) (SEs_cons (SE_name (i := 1) rfl) (SEs_cons (SE_name (i := 9) rfl) SEs_nil)))))))))
  (SX_cons (SX_if (ST_bool (STs_or_cons (ST_typeIs l_type (n_type hK) l_str (n_str hK) Boot.«str» (SE_name (i := 15) rfl)) (STs_or_cons (ST_typeIs l_type (n_type hK) l_str (n_str hK) Boot.«str» (SE_name (i := 16) rfl)) STs_or_nil))) (SX_cons (SX_if (ST_cmp c_ne (SE_name (i := 15) rfl) (SE_name (i := 16) rfl) rfl) (SX_cons (SX_ret SE_bool)
  SX_nil)
  SX_nil)
  (SX_cons SX_cont
  SX_nil))
  SX_nil)
  (SX_cons (SX_if (ST_not (ST_val (SE_callR (n := 9) l_law_same (g_l_same hK) hK rfl hrk (SEs_cons (SE_name (i := 16) rfl) (SEs_cons (SE_name (i := 15) rfl) SEs_nil))))) (SX_cons (SX_ret SE_bool)
  SX_nil)
  SX_nil)
  (SX_cons (SX_set (i := 17) rfl (SE_bin b_add (SE_sub (SE_name (i := 15) rfl) SE_int (fun _ _ => rfl)) (SE_bl (SE_bcall l_abs (n_abs hK) Boot.«abs» bc_abs (SEs_cons (SE_sub (SE_name (i := 15) rfl) SE_int (fun _ _ => rfl)) SEs_nil)) rfl rfl)))
  (SX_cons (SX_if (ST_cmp c_gt (SE_bcall l_abs (n_abs hK) Boot.«abs» bc_abs (SEs_cons (SE_name (i := 17) rfl) SEs_nil)) SE_int rfl) (SX_cons (SX_unpack (xs := [Str.ofString "near", Str.ofString "steps"]) (SE_callR (n := 9) l_mpf_frexp (g_mpf_frexp hK) hK rfl hrk (SEs_cons (SE_name (i := 16) rfl) SEs_nil)) rfl (NameElts.cons (NameElts.cons NameElts.nil)) rfl rfl)
  (SX_cons (SX_if (ST_bool (STs_or_cons (ST_cmp c_ne (SE_name (i := 19) rfl) (SE_name (i := 17) rfl) rfl) (STs_or_cons (ST_cmp c_ne (SE_callR (n := 9) l_mpf_shift (g_mpf_shift hK) hK rfl hrk (SEs_cons (SE_name (i := 18) rfl) (SEs_cons (SE_name (i := 19) rfl) SEs_nil))) (SE_name (i := 16) rfl) rfl) STs_or_nil))) (SX_cons (SX_ret SE_bool)
  SX_nil)
  SX_nil)
  (SX_cons (SX_set (i := 15) rfl (SE_tup (SEs_cons (SE_sub (SE_name (i := 15) rfl) SE_int (fun _ _ => rfl)) (SEs_cons (SE_bin b_sub (SE_sub (SE_name (i := 15) rfl) SE_int (fun _ _ => rfl)) (SE_name (i := 17) rfl)) SEs_nil))))
  (SX_cons (SX_set (i := 16) rfl (SE_name (i := 18) rfl))
  (SX_cons (SX_if (ST_not (ST_val (SE_callR (n := 9) l_law_same (g_l_same hK) hK rfl hrk (SEs_cons (SE_name (i := 16) rfl) (SEs_cons (SE_name (i := 15) rfl) SEs_nil))))) (SX_cons (SX_ret SE_bool)
  SX_nil)
  SX_nil)
  SX_nil)))))
  SX_nil)
  (SX_cons (SX_subs2 (i := 2) (j := 3) hcs rfl rfl (SE_tup (SEs_cons (SE_name (i := 15) rfl) (SEs_cons (SE_name (i := 16) rfl) SEs_nil))) (SE_name (i := 14) rfl) (SE_name (i := 14) rfl) (fun _ _ _ => rfl) (fun _ _ _ => rfl) (by decide) (by decide) rfl rfl)
  SX_nil)))))))))))
  (SX_frz hfb (SX_cons (SX_unpack (xs := [Str.ofString "least", Str.ofString "greatest"]) (SE_callR (n := 9) l_mpf_min_max (g_mpf_min_max hK) hK rfl hrk (SEs_cons (SE_name (i := 3) rfl) SEs_nil)) rfl (NameElts.cons (NameElts.cons NameElts.nil)) rfl rfl)
  (SX_cons (SX_forZip (i := 22) (j := 23) rfl rfl l_zip (n_zip hK) (SEs_cons (SE_name (i := 2) rfl) (SEs_cons (SE_name (i := 3) rfl) SEs_nil)) (fun _ => (SX_cons (SX_unpackS (xs := [Str.ofString "over", Str.ofString "under"]) hcs (SE_tup (SEs_cons SE_int (SEs_cons SE_int SEs_nil))) rfl (NameElts.cons (NameElts.cons NameElts.nil)) rfl rfl)
  (SX_cons (SX_forZip (i := 26) (j := 27) rfl rfl l_zip (n_zip hK) (SEs_cons (SE_name (i := 2) rfl) (SEs_cons (SE_name (i := 3) rfl) SEs_nil)) (fun _ => (SX_cons (SX_set (i := 28) rfl (SE_sub (SE_callR (n := 9) l_law_plus (g_l_plus hK) hK rfl hrk (SEs_cons (SE_name (i := 22) rfl) (SEs_cons (SE_tup (SEs_cons (SE_neg (SE_sub (SE_name (i := 26) rfl) SE_int (fun _ _ => rfl))) (SEs_cons (SE_sub (SE_name (i := 26) rfl) SE_int (fun _ _ => rfl)) SEs_nil))) SEs_nil))) SE_int (fun _ _ => rfl)))
  (SX_cons (SX_aug (i := 24) rfl i_add (SE_if (ST_cmp c_ge (SE_name (i := 28) rfl) SE_int rfl) SE_int SE_int))
  (SX_cons (SX_aug (i := 25) rfl i_add (SE_if (ST_cmp c_le (SE_name (i := 28) rfl) SE_int rfl) SE_int SE_int))
  (SX_cons (SX_if (ST_bool (STs_or_cons (ST_cmp c_ne (SE_callR (n := 9) l_mpf_cmp (g_mpf_cmp hK) hK rfl hrk (SEs_cons (SE_name (i := 23) rfl) (SEs_cons (SE_name (i := 27) rfl) SEs_nil))) (SE_if (ST_cmp c_gt (SE_name (i := 28) rfl) SE_int rfl) SE_int (SE_if (ST_cmp c_lt (SE_name (i := 28) rfl) SE_int rfl) (SE_neg SE_int) SE_int)) rfl) (STs_or_cons (ST_cmp c_ne (SE_callR (n := 9) l_mpf_eq (g_mpf_eq hK) hK rfl hrk (SEs_cons (SE_name (i := 23) rfl) (SEs_cons (SE_name (i := 27) rfl) SEs_nil))) (SE_cmp c_eq (SE_name (i := 28) rfl) SE_int rfl) rfl) STs_or_nil))) (SX_cons (SX_ret SE_bool)
  SX_nil)
  SX_nil)
  (SX_cons (SX_if (ST_cmp c_ne (SE_list (SEs_cons (SE_callR (n := 9) l_mpf_lt (g_mpf_lt hK) hK rfl hrk (SEs_cons (SE_name (i := 23) rfl) (SEs_cons (SE_name (i := 27) rfl) SEs_nil))) (SEs_cons (SE_callR (n := 9) l_mpf_le (g_mpf_le hK) hK rfl hrk (SEs_cons (SE_name (i := 23) rfl) (SEs_cons (SE_name (i := 27) rfl) SEs_nil))) (SEs_cons (SE_callR (n := 9) l_mpf_gt (g_mpf_gt hK) hK rfl hrk (SEs_cons (SE_name (i := 23) rfl) (SEs_cons (SE_name (i := 27) rfl) SEs_nil))) (SEs_cons (SE_callR (n := 9) l_mpf_ge (g_mpf_ge hK) hK rfl hrk (SEs_cons (SE_name (i := 23) rfl) (SEs_cons (SE_name (i := 27) rfl) SEs_nil))) SEs_nil))))) (SE_list (SEs_cons (SE_cmp c_lt (SE_name (i := 28) rfl) SE_int rfl) (SEs_cons (SE_cmp c_le (SE_name (i := 28) rfl) SE_int rfl) (SEs_cons (SE_cmp c_gt (SE_name (i := 28) rfl) SE_int rfl) (SEs_cons (SE_cmp c_ge (SE_name (i := 28) rfl) SE_int rfl) SEs_nil))))) rfl) (SX_cons (SX_ret SE_bool)
  SX_nil)
  SX_nil)
  SX_nil)))))))
  (SX_cons (SX_if (ST_bool (STs_or_cons (ST_bool (STs_and_cons (ST_cmp c_eq (SE_name (i := 24) rfl) SE_int rfl) (STs_and_cons (ST_cmp c_ne (SE_name (i := 21) rfl) (SE_name (i := 23) rfl) rfl) STs_and_nil))) (STs_or_cons (ST_bool (STs_and_cons (ST_cmp c_eq (SE_name (i := 25) rfl) SE_int rfl) (STs_and_cons (ST_cmp c_ne (SE_name (i := 20) rfl) (SE_name (i := 23) rfl) rfl) STs_and_nil))) STs_or_nil))) (SX_cons (SX_ret SE_bool)
  SX_nil)
  SX_nil)
  (SX_cons (SX_if (ST_cmp c_ne (SE_callR (n := 9) l_to_rational (g_to_rational hK) hK rfl hrk (SEs_cons (SE_name (i := 23) rfl) SEs_nil)) (SE_if (ST_cmp c_ge (SE_sub (SE_name (i := 22) rfl) SE_int (fun _ _ => rfl)) SE_int rfl) (SE_tup (SEs_cons (SE_bin b_shl (SE_sub (SE_name (i := 22) rfl) SE_int (fun _ _ => rfl)) (SE_sub (SE_name (i := 22) rfl) SE_int (fun _ _ => rfl))) (SEs_cons SE_int SEs_nil))) (SE_tup (SEs_cons (SE_sub (SE_name (i := 22) rfl) SE_int (fun _ _ => rfl)) (SEs_cons (SE_bin b_shl SE_int (SE_neg (SE_sub (SE_name (i := 22) rfl) SE_int (fun _ _ => rfl)))) SEs_nil)))) rfl) (SX_cons (SX_ret SE_bool)
  SX_nil)
  SX_nil)
  SX_nil))))))
  (SX_cons (SX_ret SE_bool)
  SX_nil)))))))))
end Mine

namespace Mine
open PySem PySem.W PySem.Calls PyProof.Rows PySem.Spec
variable {cx : Cx}
theorem ownQ_0 {a b : List PyData} {Q : Nat → List PyData → Prop} : ownQ (.own 0) [a, b] Q = Q 0 a := by
  apply propext
  exact ⟨fun ⟨ds, h, q⟩ => by cases h; exact q, fun q => ⟨_, rfl, q⟩⟩
theorem ownQ_1 {a b : List PyData} {Q : Nat → List PyData → Prop} : ownQ (.own 1) [a, b] Q = Q 1 b := by
  apply propext
  exact ⟨fun ⟨ds, h, q⟩ => by cases h; exact q, fun q => ⟨_, rfl, q⟩⟩
abbrev pl (X : Int × Int) : PyData := p2 X.1 X.2
theorem way_at {i : Int} (h0 : 0 ≤ i) (h1 : i < 5) : ∃ w : Way, ∀ Q : PyData → Prop, subQ (.str (Str.ofString "nfcud")) (.int i) Q = Q (.str w.s) := by
  have : i = 0 ∨ i = 1 ∨ i = 2 ∨ i = 3 ∨ i = 4 := by omega
  have key : ∀ (w : Way) (c : Nat) (j : Int), 0 ≤ j → j < 1000000 → (Str.ofString "nfcud").cps[j.toNat]? = some c → (⟨#[c]⟩ : Str) = w.s → ∀ Q : PyData → Prop, subQ (.str (Str.ofString "nfcud")) (.int j) Q = Q (.str w.s) := by
    intro w c j g0 g1 g2 g3 Q
    rw [subQ_str, g2]
    apply propext
    exact ⟨fun ⟨_, _, c', e, q⟩ => by cases e; rw [← g3]; exact q, fun q => ⟨g0, g1, _, rfl, by rw [g3]; exact q⟩⟩
  rcases this with rfl | rfl | rfl | rfl | rfl
  · exact ⟨.n, key .n 110 0 (by decide) (by decide) (by decide) (by decide)⟩
  · exact ⟨.f, key .f 102 1 (by decide) (by decide) (by decide) (by decide)⟩
  · exact ⟨.c, key .c 99 2 (by decide) (by decide) (by decide) (by decide)⟩
  · exact ⟨.u, key .u 117 3 (by decide) (by decide) (by decide) (by decide)⟩
  · exact ⟨.d, key .d 100 4 (by decide) (by decide) (by decide) (by decide)⟩
theorem fmod_lt {a b : Int} (h : 0 < b) : 0 ≤ a.fmod b ∧ a.fmod b < b := by
  rw [Int.fmod_eq_emod_of_nonneg _ (by omega)]
  exact ⟨Int.emod_nonneg _ (by omega), Int.emod_lt_of_pos _ h⟩
local macro_rules | `(tactic| walk_at "vc") => `(tactic| simp only [tSeq, tSet, tIf, tRet, tSkip, tAug, tAssert, tBin, tTest, tName, tInt, tGlob, tStr, tBool, tNone, tTruth, tNotT, tTrue, tFalse, tAndT, tOrT, tIfE, tNeg, tNot, tOr, tAnd, tNil, tCons, tTup, tList, tSub, tDict, tBl, tB, tCall, tTypeIs, tIsInt, tUnpack, tUnpackR, tBrk, tCont, tRaise, tOwnSub, tAppend, tSubs2, setOwnQ, tTry2, tTruthL, truthLQ, tCutTo, cutToQ, ownQ_0, ownQ_1, tupQ_tuple,
  slotQ, boolQ, truthQ, intQ, tupQ_tuple, listQ, strQ, subQ_t0, subQ_t1, subQ_l0, kI, kB, kAbs, kInt, kMin, kMax, kDivmod, setAll_cons, setAll_nil, outQ_ok, outQ_err, callPost_rt, callPost_nx, callPost_xx, turnP, kEq_int, kNe_int, kEq_n, kEq_f, kEq_c, kEq_u, kEq_p4, kNe_p4,
  List.getD_cons_zero, List.getD_cons_succ, List.set_cons_zero, List.set_cons_succ, valSlots, List.map_cons, List.map_nil, List.nil_append, List.cons_append, List.append_nil, List.replicate_succ, List.replicate_zero, List.length_cons, List.length_nil,
  true_and, and_true, bne_iff_ne, ne_eq, Bool.not_eq_true', Bool.not_eq_false', decide_eq_true_eq, decide_eq_false_iff_not, beq_iff_eq, beq_eq_false_iff_ne, bne_eq_false_iff_eq, Decidable.not_not, true_implies, Bool.true_eq_false, Bool.false_eq_true, false_implies, implies_true, not_true_eq_false, not_false_eq_true, reduceCtorEq, ok_inj, err_inj, Int.reduceEq, Int.reduceLT, Int.reduceLE, Int.reduceNeg, tupQ_mk, subQ_m0, subQ_m1, kEq_mk, sn_z, natAbs_z, natCast_z, kEq_mm, kNe_mm, bl_m1, bl_m2, bl_m3, Bool.and_false, Bool.false_and, Bool.not_false, Bool.not_true, Bool.and_true, Bool.true_and, Bool.and_eq_true, Bool.and_eq_false_iff])
/-- a new register -/
theorem reg_new {bits : Nat} {w : Way} {m e : Int} (hb : 1 ≤ bits) (hb2 : bits ≤ 32) (hm : bl m ≤ 91) (he : -204 ≤ e ∧ e ≤ 204) : Reg bits (R w bits m 1 e) := by
  have h1 := R_can (w := w) (bits := bits) (n := m) (d := 1) (p := e) hb (by decide)
  have h2 := R_exp (w := w) (bits := bits) (n := m) (d := 1) (p := e) hb (by decide)
  have b1 : bl ((1 : Nat) : Int) = 1 := by decide
  exact ⟨h1.1, h1.2, by omega, by omega⟩
theorem round1_ok (hK : KK cx) {w : Way} {num : Int} {bits : Nat} {power : Int} (hb : 1 ≤ bits) (hb2 : bits ≤ 1000) (hz : bl num ≤ 8000) :
    CallOK cx 324 0 [.int num, .int 1, .int power, .int bits, .str w.s] (.ok (pl (R w bits num 1 power))) := l_round_ok hK (den := 1) hb hb2 (by decide) hz (by decide)
theorem idx_pl {Xs : List (Int × Int)} {f : Int × Int → PyData} {k : Int} {X : Int × Int} {Q : PyData → Prop} (h0 : 0 ≤ k) (h1 : k < 1000000) (h : Xs[k.toNat]? = some X) (q : Q (f X)) : idxQ (Xs.map f) k Q :=
  ⟨h0, h1, f X, by rw [List.getElem?_map, h]; rfl, q⟩
theorem idx_last {Xs : List (Int × Int)} {f : Int × Int → PyData} {k : Nat} {X : Int × Int} {Q : PyData → Prop} (hk : Xs.length = k) (h1 : k < 1000) (q : Q (f X)) : idxQ (Xs.map f ++ [f X]) k Q :=
  ⟨by omega, by omega, f X, by rw [Int.toNat_natCast, List.getElem?_append_right (by simp [hk])]; simp [hk], q⟩

theorem b1_ok (hK : KK cx) {s₁ : Shared} {Pa : Addr} (G : KG cx s₁ 365 Pa 4) {S : PyData} {bits : Nat} (hb : 1 ≤ bits) (hb2 : bits ≤ 32) {Xs : List (Int × Int)} {k : Nat} {x : Int} (hlen : Xs.length = k) (hk : k < 5) {r4 r7 r8 r9 r10 r11 r12 r13 r14 r15 r16 r17 r18 r19 r20 r21 r22 r23 r24 r25 r26 r27 r28 : Slot} {P : Post}
    (hP : ∀ X r7 r8 r9, Reg bits X → P.nx [.val S, .val (.int bits), .own 0, .own 1, r4, .val (.int k), .val (.int x), r7, r8, r9, r10, r11, r12, r13, r14, r15, r16, r17, r18, r19, r20, r21, r22, r23, r24, r25, r26, r27, r28] [Xs.map pl ++ [pl X], Xs.map mkr ++ [mkr X]]) :
    q_law_b1 cx [.val S, .val (.int bits), .own 0, .own 1, r4, .val (.int k), .val (.int x), r7, r8, r9, r10, r11, r12, r13, r14, r15, r16, r17, r18, r19, r20, r21, r22, r23, r24, r25, r26, r27, r28] [Xs.map pl, Xs.map mkr] P := by
  refine s_law_b1 fun R0 h0 => ?_
  walk_at "vc"
  have p90 : (1 : Int) * 2 ^ (90 : Int).toNat = 2 ^ 90 := by decide
  rw [p90]
  refine ⟨by decide, ?_⟩
  have key : ∀ m : Int, bl m ≤ 91 → R0 [.val S, .val (.int bits), .own 0, .own 1, r4, .val (.int k), .val (.int x), .val (.int m), r8, r9, r10, r11, r12, r13, r14, r15, r16, r17, r18, r19, r20, r21, r22, r23, r24, r25, r26, r27, r28] [Xs.map pl, Xs.map mkr] P := by
    intro m hm
    rw [h0]; refine s_law_b1_1 fun R1 h1 => ?_
    walk_at "vc"
    have key2 : ∀ e : Int, -204 ≤ e ∧ e ≤ 204 → R1 [.val S, .val (.int bits), .own 0, .own 1, r4, .val (.int k), .val (.int x), .val (.int m), .val (.int e), r9, r10, r11, r12, r13, r14, r15, r16, r17, r18, r19, r20, r21, r22, r23, r24, r25, r26, r27, r28] [Xs.map pl, Xs.map mkr] P := by
      intro e he
      rw [h1]; refine s_law_b1_2 fun R2 h2 => ?_
      walk_at "vc"
      obtain ⟨f1, f2⟩ := fmod_lt (a := x + k) (b := 5) (by decide)
      obtain ⟨w, hw⟩ := way_at f1 f2
      rw [hw, h2]; refine s_law_b1_3 fun R3 h3 => ?_
      walk_at "vc"
      refine callI (round1_ok hK hb (by omega) (by omega)) (by decide) ?_
      refine ⟨by rw [List.length_map]; omega, ?_⟩
      rw [h3]; refine s_law_b1_4 fun R4 h4 => ?_
      walk_at "vc"
      refine callI (fme_ok hK hb (by omega)) (by decide) ?_
      refine ⟨by rw [List.length_map]; omega, ?_⟩
      rw [h4]; unfold q_law_b1_5
      have hR := reg_new (w := w) hb hb2 hm he
      generalize R w bits m 1 e = X at hR ⊢
      walk_at "vc"
      refine idx_last hlen (by omega) ?_
      refine idx_last hlen (by omega) ?_
      refine callI (same_ok hK G (X := X) (by have := hR.2.1; omega)) (by decide) ?_
      walk_at "vc"
      exact hP X _ _ _ hR
    have hk3 : bl (k : Int) ≤ 3 := bl_le.mpr (by omega)
    obtain ⟨f1, f2⟩ := fmod_lt (a := x.fdiv 3 + 50 * k) (b := 401) (by decide)
    obtain ⟨f3, f4⟩ := fmod_lt (a := x) (b := 9) (by decide)
    exact ⟨fun _ => ⟨by decide, ⟨by decide, by omega⟩, key2 _ (by omega)⟩, fun _ => key2 _ (by omega)⟩
  have e90 : (2 : Int) ^ 90 = 1237940039285380274899124224 := by decide
  have n90 : (2 : Nat) ^ 91 = 2475880078570760549798248448 := by decide
  refine ⟨fun q => key _ (bl_le.mpr ?_), fun q => ⟨by decide, by decide, key _ (bl_le.mpr ?_)⟩⟩
  · rw [e90] at q; rw [n90]
    split at q <;> omega
  · obtain ⟨f1, f2⟩ := fmod_lt (a := x) (b := 2 ^ 90) (by decide)
    rw [n90]; omega
end Mine

namespace Mine
open PySem PySem.W PySem.Calls PyProof.Rows PySem.Spec
variable {cx : Cx}
theorem kNe_zde {Q : PyData → Prop} : kNe (.str (Str.ofString "over nothing")) (.str (Str.ofString "over nothing")) Q = Q (.bool false) := by
  apply propext; exact ⟨fun h => h.2.2, fun h => ⟨by kernel_rfl, by kernel_rfl, h⟩⟩
theorem kNe_cplx {Q : PyData → Prop} : kNe (.str (Str.ofString "no root")) (.str (Str.ofString "no root")) Q = Q (.bool false) := by
  apply propext; exact ⟨fun h => h.2.2, fun h => ⟨by kernel_rfl, by kernel_rfl, h⟩⟩
theorem ty_str {s : Str} : (tyName (.str s) == "str") = true := rfl
theorem ty_tup {l : List PyData} : (tyName (.tuple l) == "str") = false := rfl
theorem ty_mk {m e : Int} : (tyName (mk m e) == "str") = false := rfl
theorem rev3 {a b c : Nat} : [a, b, c].reverse = [c, b, a] := rfl
theorem rev3p {a b c : PyData} : [a, b, c].reverse = [c, b, a] := rfl
local macro_rules | `(tactic| walk_at "vc") => `(tactic| simp only [tSeq, tSet, tIf, tRet, tSkip, tAug, tAssert, tBin, tTest, tName, tInt, tGlob, tStr, tBool, tNone, tTruth, tNotT, tTrue, tFalse, tAndT, tOrT, tIfE, tNeg, tNot, tOr, tAnd, tNil, tCons, tTup, tList, tSub, tDict, tBl, tB, tCall, tTypeIs, tIsInt, tUnpack, tUnpackR, rev3, rev3p, kNe_zde, kNe_cplx, ty_str, ty_tup, ty_mk, tBrk, tCont, tRaise, tOwnSub, tAppend, tSubs2, setOwnQ, tTry2, tTruthL, truthLQ, tCutTo, cutToQ, ownQ_0, ownQ_1, tupQ_tuple,
  slotQ, boolQ, truthQ, intQ, tupQ_tuple, listQ, strQ, subQ_t0, subQ_t1, subQ_l0, kI, kB, kAbs, kInt, kMin, kMax, kDivmod, setAll_cons, setAll_nil, outQ_ok, outQ_err, callPost_rt, callPost_nx, callPost_xx, turnP, kEq_int, kNe_int, kEq_n, kEq_f, kEq_c, kEq_u, kEq_p4, kNe_p4,
  List.getD_cons_zero, List.getD_cons_succ, List.set_cons_zero, List.set_cons_succ, valSlots, List.map_cons, List.map_nil, List.nil_append, List.cons_append, List.append_nil, List.replicate_succ, List.replicate_zero, List.length_cons, List.length_nil,
  true_and, and_true, bne_iff_ne, ne_eq, Bool.not_eq_true', Bool.not_eq_false', decide_eq_true_eq, decide_eq_false_iff_not, beq_iff_eq, beq_eq_false_iff_ne, bne_eq_false_iff_eq, Decidable.not_not, true_implies, Bool.true_eq_false, Bool.false_eq_true, false_implies, implies_true, not_true_eq_false, not_false_eq_true, reduceCtorEq, ok_inj, err_inj, Int.reduceEq, Int.reduceLT, Int.reduceLE, Int.reduceNeg, tupQ_mk, subQ_m0, subQ_m1, kEq_mk, sn_z, natAbs_z, natCast_z, kEq_mm, kNe_mm, bl_m1, bl_m2, bl_m3, Bool.and_false, Bool.false_and, Bool.not_false, Bool.not_true, Bool.and_true, Bool.true_and, Bool.and_eq_true, Bool.and_eq_false_iff])
theorem b2_ok (hK : KK cx) {s₁ : Shared} {Pa : Addr} (G : KG cx s₁ 365 Pa 4) {S : PyData} {bits : Nat} (hb : 1 ≤ bits) (hb2 : bits ≤ 32) {Xs : List (Int × Int)} {k : Nat} {x : Int} (hlen : Xs.length = 5) (hX : ∀ X ∈ Xs, Reg bits X) (hk : k < 24) {r4 r7 r8 r9 r10 r11 r12 r13 r14 r15 r16 r17 r18 r19 r20 r21 r22 r23 r24 r25 r26 r27 r28 : Slot} {P : Post}
    (hP : ∀ (Ys : List (Int × Int)) (r9 r10 r11 r12 r13 r14 r15 r16 r17 r18 r19 : Slot), Ys.length = 5 → (∀ X ∈ Ys, Reg bits X) → P.nx [.val S, .val (.int bits), .own 0, .own 1, r4, .val (.int k), .val (.int x), r7, r8, r9, r10, r11, r12, r13, r14, r15, r16, r17, r18, r19, r20, r21, r22, r23, r24, r25, r26, r27, r28] [Ys.map pl, Ys.map mkr])
    (hC : ∀ r9 r10 r11 r12 r13 r14 r15 r16 r17 r18 r19, P.ct [.val S, .val (.int bits), .own 0, .own 1, r4, .val (.int k), .val (.int x), r7, r8, r9, r10, r11, r12, r13, r14, r15, r16, r17, r18, r19, r20, r21, r22, r23, r24, r25, r26, r27, r28] [Xs.map pl, Xs.map mkr]) :
    q_law_b2 cx [.val S, .val (.int bits), .own 0, .own 1, r4, .val (.int k), .val (.int x), r7, r8, r9, r10, r11, r12, r13, r14, r15, r16, r17, r18, r19, r20, r21, r22, r23, r24, r25, r26, r27, r28] [Xs.map pl, Xs.map mkr] P := by
  refine s_law_b2 fun R0 h0 => ?_
  walk_at "vc"
  have hk5 : bl (k : Int) ≤ 5 := bl_le.mpr (by omega)
  obtain ⟨f1, f2⟩ := fmod_lt (a := x.fdiv 19 + k) (b := 5) (by decide)
  obtain ⟨w, hw⟩ := way_at f1 f2
  refine ⟨by decide, ?_⟩
  rw [hw]
  refine ⟨by decide, by decide, ?_⟩
  obtain ⟨q1, q2⟩ := fmod_lt (a := x) (b := 19) (by decide)
  generalize x.fmod 19 = kd at q1 q2 ⊢
  generalize x.fdiv 7 + (k : Int) = n
  rw [h0]; refine s_law_b2_1 fun R1 h1 => ?_
  walk_at "vc"
  refine ⟨by decide, by decide, ⟨by decide, by omega⟩, by decide, ⟨by decide, by omega⟩, by decide, ?_⟩
  obtain ⟨i1, i2⟩ := fmod_lt (a := x.fdiv 95 + k) (b := 5) (by decide)
  obtain ⟨j1, j2⟩ := fmod_lt (a := x.fdiv 475 + 2 * k + 1) (b := 5) (by decide)
  obtain ⟨l1, l2⟩ := fmod_lt (a := x.fdiv 2375 + 3 * k + 2) (b := 5) (by decide)
  generalize (x.fdiv 95 + (k : Int)).fmod 5 = ii at i1 i2 ⊢
  generalize (x.fdiv 475 + 2 * (k : Int) + 1).fmod 5 = jj at j1 j2 ⊢
  generalize (x.fdiv 2375 + 3 * (k : Int) + 2).fmod 5 = ll at l1 l2 ⊢
  have pick : ∀ z : Int, 0 ≤ z → z < 5 → ∃ Z, Xs[z.toNat]? = some Z ∧ Reg bits Z := fun z z1 z2 =>
    ⟨Xs[z.toNat]'(by omega), List.getElem?_eq_getElem (by omega), hX _ (List.getElem_mem _)⟩
  obtain ⟨A, hA, rA⟩ := pick ii i1 i2
  obtain ⟨B, hB, rB⟩ := pick jj j1 j2
  obtain ⟨C, hC', rC⟩ := pick ll l1 l2
  rw [h1]; refine s_law_b2_2 fun R2 h2 => ?_
  have key : ∀ kd' : Int, 0 ≤ kd' → kd' < 19 → (kd' = 4 → B.1 ≠ 0) → R2 [.val S, .val (.int bits), .own 0, .own 1, r4, .val (.int k), .val (.int x), r7, r8, .val (.str w.s), .val (.int kd'), .val (.int n), .val (.int ii), .val (.int jj), .val (.int ll), r15, r16, r17, r18, r19, r20, r21, r22, r23, r24, r25, r26, r27, r28] [Xs.map pl, Xs.map mkr] P := by
    intro kd' g1 g2 g3
    rw [h2]; refine s_law_b2_3 fun R3 h3 => ?_
    walk_at "vc"
    obtain ⟨r, rg, c1, c2⟩ := deed_ok hK (w := w) (n := n) hb hb2 rA rB rC g1 g2 g3
    refine idx_pl i1 (by omega) hA (idx_pl j1 (by omega) hB (idx_pl l1 (by omega) hC' ?_))
    refine callI c1 (by decide) ?_
    rw [h3]; refine s_law_b2_4 fun R4 h4 => ?_
    walk_at "vc"
    refine idx_pl i1 (by omega) hA (idx_pl j1 (by omega) hB (idx_pl l1 (by omega) hC' ?_))
    refine ⟨_, _, c2, by decide, ?_⟩
    cases r with
    | zde =>
      show R4 _ _ _
      rw [h4]; refine s_law_b2_5 fun R5 h5 => ?_
      unfold Res.plain
      walk_at "vc"
      exact hC _ _ _ _ _ _ _ _ _ _ _
    | cplx =>
      show R4 _ _ _
      rw [h4]; refine s_law_b2_5 fun R5 h5 => ?_
      unfold Res.plain
      walk_at "vc"
      exact hC _ _ _ _ _ _ _ _ _ _ _
    | val X =>
      show R4 _ _ _
      obtain ⟨x1, x2, x3, x4⟩ : Odd0 X.1 X.2 ∧ bl X.1 ≤ bits ∧ -9000 ≤ X.2 ∧ X.2 ≤ 9000 := rg
      clear c1 c2
      rw [h4]; refine s_law_b2_5 fun R5 h5 => ?_
      unfold Res.plain
      walk_at "vc"
      rw [h5]; refine s_law_b2_6 fun R6 h6 => ?_
      walk_at "vc"
      refine callI (same_ok hK G (X := X) (by omega)) (by decide) ?_
      walk_at "vc"
      rw [h6]; refine s_law_b2_7 fun R7 h7 => ?_
      walk_at "vc"
      have habs : bl (if X.1 < 0 then -X.1 else X.1) = bl X.1 := by split; exact bl_neg _; rfl
      rw [habs, h7]; refine s_law_b2_8 fun R8 h8 => ?_
      have fin : ∀ Y : Int × Int, Reg bits Y → ∀ r17 r18 r19, R8 [.val S, .val (.int bits), .own 0, .own 1, r4, .val (.int k), .val (.int x), r7, r8, .val (.str w.s), .val (.int kd'), .val (.int n), .val (.int ii), .val (.int jj), .val (.int ll), .val (pl Y), .val (mkr Y), r17, r18, r19, r20, r21, r22, r23, r24, r25, r26, r27, r28] [Xs.map pl, Xs.map mkr] P := by
        intro Y hY r17 r18 r19
        rw [h8]; unfold q_law_b2_9
        walk_at "vc"
        refine ⟨by decide, l1, by omega, by rw [List.length_map]; omega, l1, by omega, by rw [List.length_map]; omega, ?_⟩
        have := hP (Xs.set ll.toNat Y) (.val (.str w.s)) (.val (.int kd')) (.val (.int n)) (.val (.int ii)) (.val (.int jj)) (.val (.int ll)) (.val (pl Y)) (.val (mkr Y)) r17 r18 r19 (by rw [List.length_set]; exact hlen) (fun Z hZ => (List.mem_or_eq_of_mem_set hZ).elim (hX Z) fun q => q ▸ hY)
        rw [List.map_set, List.map_set] at this
        exact this
      walk_at "vc"
      refine ⟨fun q => ?_, fun q => fin X ⟨x1, x2, by split at q <;> omega, by split at q <;> omega⟩ _ _ _⟩
      have hodd : X.1 % 2 = 1 := by
        rcases x1 with z | ⟨z1, z2⟩
        · exact z
        · rw [z1, z2, bl_zero] at q; exact absurd q (by decide)
      refine callI (frexp_ok hK hodd) (by decide) ?_
      walk_at "vc"
      refine ⟨fun z => absurd (Int.add_comm _ _) z, fun _ => ?_⟩
      have hsh := shift_ok hK (m := X.1) (e := -(bl X.1 : Int)) (n := bl X.1 + X.2) (.inl hodd)
      rw [if_neg (by omega), show -(bl X.1 : Int) + (bl X.1 + X.2) = X.2 by omega] at hsh
      refine callI hsh (by decide) ?_
      have e1 : X.2 - (X.2 + (bl X.1 : Int)) = -(bl X.1 : Int) := by omega
      rw [e1]
      walk_at "vc"
      refine ⟨fun z => (z.elim id id).elim, by decide, ?_⟩
      refine callI (same_ok hK G (X := (X.1, -(bl X.1 : Int))) (by show bl X.1 ≤ _; omega)) (by decide) ?_
      walk_at "vc"
      exact fin (X.1, -(bl X.1 : Int)) ⟨.inl hodd, x2, by show -400 ≤ -(bl X.1 : Int); omega, by show -(bl X.1 : Int) ≤ 400; omega⟩ _ _ _
  walk_at "vc"
  refine ⟨fun q => idx_pl j1 (by omega) hB ?_, fun q => key kd q1 q2 fun z => absurd z q⟩
  walk_at "vc"
  exact ⟨fun z => key 7 (by decide) (by decide) (fun y => absurd y (by decide)), fun z => key kd q1 q2 fun _ => z⟩
end Mine

namespace Mine
open PySem PySem.W PySem.Calls PyProof.Rows PySem.Spec
variable {cx : Cx}
theorem kNe_bool {a : Bool} {Q : PyData → Prop} : kNe (.bool a) (.bool a) Q = Q (.bool false) := by
  cases a <;> (apply propext; exact ⟨fun h => h.2.2, fun h => ⟨by kernel_rfl, by kernel_rfl, h⟩⟩)
theorem kNe_l4 {a b c d : Bool} {Q : PyData → Prop} : kNe (.list [.bool a, .bool b, .bool c, .bool d]) (.list [.bool a, .bool b, .bool c, .bool d]) Q = Q (.bool false) := by
  cases a <;> cases b <;> cases c <;> cases d <;> (apply propext; exact ⟨fun h => h.2.2, fun h => ⟨by kernel_rfl, by kernel_rfl, h⟩⟩)
theorem kNe_p2 {a b : Int} {Q : PyData → Prop} (h : Q (.bool false)) : kNe (p2 a b) (p2 a b) Q := by
  refine ⟨rfl, rfl, ?_⟩
  have : PyData.eqv (p2 a b) (p2 a b) = true := by simp [PyData.eqv, PyData.eqvAll]
  rw [this]; exact h
abbrev dif (V W : Int × Int) : Int := sumN V.1 V.2 (-W.1) W.2
/-- a register's worth, in its own smallest unit -/
def wth (X : Int × Int) : Int := atB (-400) X.1 X.2
theorem dif_sign {V W : Int × Int} (hV : -400 ≤ V.2) (hW : -400 ≤ W.2) : (0 < dif V W ↔ wth W < wth V) ∧ (dif V W < 0 ↔ wth V < wth W) := by
  have h := atB_sum (m := V.1) (m' := -W.1) hV hW
  have e1 : atB (-400) (-W.1) W.2 = -wth W := by unfold wth atB; rw [Int.neg_mul]
  rw [e1] at h
  have hp : (0 : Int) < 2 ^ (min V.2 W.2 - -400).toNat := Int.pow_pos (by decide)
  have e2 : dif V W * 2 ^ (min V.2 W.2 - -400).toNat = wth V + -wth W := h
  generalize (2 : Int) ^ (min V.2 W.2 - -400).toNat = p at hp e2
  generalize dif V W = d at e2 ⊢
  refine ⟨⟨fun q => ?_, fun q => ?_⟩, ⟨fun q => ?_, fun q => ?_⟩⟩
  · have := Int.mul_pos q hp; omega
  · rcases Int.lt_trichotomy d 0 with z | z | z
    · have := Int.mul_neg_of_neg_of_pos z hp; omega
    · rw [z, Int.zero_mul] at e2; omega
    · exact z
  · have := Int.mul_neg_of_neg_of_pos q hp; omega
  · rcases Int.lt_trichotomy d 0 with z | z | z
    · exact z
    · rw [z, Int.zero_mul] at e2; omega
    · have := Int.mul_pos z hp; omega
theorem max_ge {bits : Nat} : ∀ (l : List (Int × Int)) (x : Int × Int), (∀ y ∈ x :: l, Reg bits y) → ∀ y ∈ x :: l, wth y ≤ wth (l.foldl maxS x)
  | [], x, h, y, hy => by rw [List.mem_singleton.mp hy]; exact Int.le_refl _
  | z :: r, x, h, y, hy => by
    have hx := h x (.head _)
    have hz := h z (.tail _ (.head _))
    have sg := (dif_sign (V := z) (W := x) hz.2.2.1 hx.2.2.1).1
    rw [List.foldl_cons]
    have hm : maxS x z = z ∨ maxS x z = x := maxS_or x z
    have hreg : ∀ y ∈ maxS x z :: r, Reg bits y := fun y hy => by
      rcases List.mem_cons.mp hy with q | q
      · rcases hm with e | e <;> rw [q, e]
        · exact hz
        · exact hx
      · exact h y (.tail _ (.tail _ q))
    have ih := max_ge r (maxS x z) hreg
    have h1 := ih (maxS x z) (.head _)
    have hxz : wth x ≤ wth (maxS x z) ∧ wth z ≤ wth (maxS x z) := by
      unfold maxS
      split
      · rename_i q; have := sg.mp q; omega
      · rename_i q
        have : ¬ wth x < wth z := fun w => q (sg.mpr w)
        omega
    rcases List.mem_cons.mp hy with q | q
    · rw [q]; omega
    · rcases List.mem_cons.mp q with q | q
      · rw [q]; omega
      · exact ih y (.tail _ q)
theorem min_le' {bits : Nat} : ∀ (l : List (Int × Int)) (x : Int × Int), (∀ y ∈ x :: l, Reg bits y) → ∀ y ∈ x :: l, wth (l.foldl minS x) ≤ wth y
  | [], x, h, y, hy => by rw [List.mem_singleton.mp hy]; exact Int.le_refl _
  | z :: r, x, h, y, hy => by
    have hx := h x (.head _)
    have hz := h z (.tail _ (.head _))
    have sg := (dif_sign (V := z) (W := x) hz.2.2.1 hx.2.2.1).2
    rw [List.foldl_cons]
    have hm : minS x z = z ∨ minS x z = x := minS_or x z
    have hreg : ∀ y ∈ minS x z :: r, Reg bits y := fun y hy => by
      rcases List.mem_cons.mp hy with q | q
      · rcases hm with e | e <;> rw [q, e]
        · exact hz
        · exact hx
      · exact h y (.tail _ (.tail _ q))
    have ih := min_le' r (minS x z) hreg
    have h1 := ih (minS x z) (.head _)
    have hxz : wth (minS x z) ≤ wth x ∧ wth (minS x z) ≤ wth z := by
      unfold minS
      split
      · rename_i q; have := sg.mp q; omega
      · rename_i q
        have : ¬ wth z < wth x := fun w => q (sg.mpr w)
        omega
    rcases List.mem_cons.mp hy with q | q
    · rw [q]; omega
    · rcases List.mem_cons.mp q with q | q
      · rw [q]; omega
      · exact ih y (.tail _ q)
theorem same_of_wth {bits : Nat} {V W : Int × Int} (hV : Reg bits V) (hW : Reg bits W) (h : wth V = wth W) : V.1 = W.1 ∧ V.2 = W.2 := by
  have sg := dif_sign (V := V) (W := W) hV.2.2.1 hW.2.2.1
  have : dif V W = 0 := by omega
  exact (sumN_zero hV.1 hW.1).mp this
/-- how many of a row a register is not below -/
def ovN (V : Int × Int) (l : List (Int × Int)) : Int := (l.filter fun W => decide (0 ≤ dif V W)).length
def unN (V : Int × Int) (l : List (Int × Int)) : Int := (l.filter fun W => decide (dif V W ≤ 0)).length
theorem cnt_take {p : Int × Int → Bool} {l : List (Int × Int)} {k : Nat} {W : Int × Int} (h : l[k]? = some W) : (((l.take (k + 1)).filter p).length : Int) = ((l.take k).filter p).length + (if p W = true then 1 else 0) := by
  have e : l.take (k + 1) = l.take k ++ [W] := by rw [List.take_add_one, h]; rfl
  rw [e, List.filter_append, List.length_append, List.filter_cons]
  split <;> simp
theorem cnt_all {p : Int × Int → Bool} {l : List (Int × Int)} (h : ((l.filter p).length : Int) = l.length) : ∀ W ∈ l, p W = true := by
  have h' : (l.filter p).length = l.length := by omega
  exact List.filter_eq_self.mp (List.filter_sublist.eq_of_length h')
local macro_rules | `(tactic| walk_at "vc") => `(tactic| simp only [tSeq, tSet, tIf, tRet, tSkip, tAug, tAssert, tBin, tTest, tName, tInt, tGlob, tStr, tBool, tNone, tTruth, tNotT, tTrue, tFalse, tAndT, tOrT, tIfE, tNeg, tNot, tOr, tAnd, tNil, tCons, tTup, tList, tSub, tDict, tBl, tB, tCall, tTypeIs, tIsInt, tUnpack, tUnpackR, kNe_bool, kNe_l4, tBrk, tCont, tRaise, tOwnSub, tAppend, tSubs2, setOwnQ, tTry2, tTruthL, truthLQ, tCutTo, cutToQ, ownQ_0, ownQ_1, tupQ_tuple,
  slotQ, boolQ, truthQ, intQ, tupQ_tuple, listQ, strQ, subQ_t0, subQ_t1, subQ_l0, kI, kB, kAbs, kInt, kMin, kMax, kDivmod, setAll_cons, setAll_nil, outQ_ok, outQ_err, callPost_rt, callPost_nx, callPost_xx, turnP, kEq_int, kNe_int, kEq_n, kEq_f, kEq_c, kEq_u, kEq_p4, kNe_p4,
  List.getD_cons_zero, List.getD_cons_succ, List.set_cons_zero, List.set_cons_succ, valSlots, List.map_cons, List.map_nil, List.nil_append, List.cons_append, List.append_nil, List.replicate_succ, List.replicate_zero, List.length_cons, List.length_nil,
  true_and, and_true, bne_iff_ne, ne_eq, Bool.not_eq_true', Bool.not_eq_false', decide_eq_true_eq, decide_eq_false_iff_not, beq_iff_eq, beq_eq_false_iff_ne, bne_eq_false_iff_eq, Decidable.not_not, true_implies, Bool.true_eq_false, Bool.false_eq_true, false_implies, implies_true, not_true_eq_false, not_false_eq_true, reduceCtorEq, ok_inj, err_inj, Int.reduceEq, Int.reduceLT, Int.reduceLE, Int.reduceNeg, tupQ_mk, subQ_m0, subQ_m1, kEq_mk, sn_z, natAbs_z, natCast_z, kEq_mm, kNe_mm, bl_m1, bl_m2, bl_m3, Bool.and_false, Bool.false_and, Bool.not_false, Bool.not_true, Bool.and_true, Bool.true_and, Bool.and_eq_true, Bool.and_eq_false_iff])
theorem b4_ok (hK : KK cx) {bits : Nat} (hb2 : bits ≤ 32) {V W : Int × Int} (hV : Reg bits V) (hW : Reg bits W) {o u : Int} {r0 r1 r2 r3 r4 r5 r6 r7 r8 r9 r10 r11 r12 r13 r14 r15 r16 r17 r18 r19 r20 r21 r28 : Slot} {σ : List (List PyData)} {P : Post}
    (hP : ∀ r28, P.nx [r0, r1, r2, r3, r4, r5, r6, r7, r8, r9, r10, r11, r12, r13, r14, r15, r16, r17, r18, r19, r20, r21, .val (pl V), .val (mkr V), .val (.int (o + if decide (0 ≤ dif V W) = true then 1 else 0)), .val (.int (u + if decide (dif V W ≤ 0) = true then 1 else 0)), .val (pl W), .val (mkr W), r28] σ) :
    q_law_b4 cx [r0, r1, r2, r3, r4, r5, r6, r7, r8, r9, r10, r11, r12, r13, r14, r15, r16, r17, r18, r19, r20, r21, .val (pl V), .val (mkr V), .val (.int o), .val (.int u), .val (pl W), .val (mkr W), r28] σ P := by
  obtain ⟨v1, v2, v3, v4⟩ := hV
  obtain ⟨w1, w2, w3, w4⟩ := hW
  have bv : bl V.1 ≤ 2 ^ 20 := by omega
  have bw : bl W.1 ≤ 2 ^ 20 := by omega
  have ev : -(2 ^ 20) ≤ V.2 ∧ V.2 ≤ 2 ^ 20 := by omega
  have ew : -(2 ^ 20) ≤ W.2 ∧ W.2 ≤ 2 ^ 20 := by omega
  refine s_law_b4 fun R0 h0 => ?_
  walk_at "vc"
  refine ⟨by decide, ?_⟩
  refine callI (l_plus_ok hK bv (by rw [bl_neg]; exact bw) ev ew) (by decide) ?_
  walk_at "vc"
  have hcmp := cmp_ok hK v1 w1 bv bw ev ew
  have heq := eq_ok hK v1 w1
  have hlt := lt_ok hK v1 w1 bv bw ev ew
  have hle := le_ok hK v1 w1 bv bw ev ew
  have hgt := gt_ok hK v1 w1 bv bw ev ew
  have hge := ge_ok hK v1 w1 bv bw ev ew
  have hP' := hP (.val (.int (dif V W)))
  clear hP
  change CallOK cx 156 6 [mkr V, mkr W] (.ok (.int (sgnI (dif V W)))) at hcmp
  change CallOK cx 149 0 [mkr V, mkr W] (.ok (.bool (decide (dif V W = 0)))) at heq
  change CallOK cx 163 7 [mkr V, mkr W] (.ok (.bool (decide (dif V W < 0)))) at hlt
  change CallOK cx 170 7 [mkr V, mkr W] (.ok (.bool (decide (dif V W ≤ 0)))) at hle
  change CallOK cx 177 7 [mkr V, mkr W] (.ok (.bool (decide (0 < dif V W)))) at hgt
  change CallOK cx 184 7 [mkr V, mkr W] (.ok (.bool (decide (0 ≤ dif V W)))) at hge
  change R0 [r0, r1, r2, r3, r4, r5, r6, r7, r8, r9, r10, r11, r12, r13, r14, r15, r16, r17, r18, r19, r20, r21, .val (pl V), .val (mkr V), .val (.int o), .val (.int u), .val (pl W), .val (mkr W), .val (.int (dif V W))] σ P
  generalize dif V W = d at *
  rw [h0]; refine s_law_b4_1 fun R1 h1 => ?_
  walk_at "vc"
  have key1 : ∀ o' : Int, o' = o + (if decide (0 ≤ d) = true then 1 else 0) → R1 [r0, r1, r2, r3, r4, r5, r6, r7, r8, r9, r10, r11, r12, r13, r14, r15, r16, r17, r18, r19, r20, r21, .val (pl V), .val (mkr V), .val (.int o'), .val (.int u), .val (pl W), .val (mkr W), .val (.int d)] σ P := by
    intro o' ho
    rw [h1]; refine s_law_b4_2 fun R2 h2 => ?_
    walk_at "vc"
    have key2 : ∀ u' : Int, u' = u + (if decide (d ≤ 0) = true then 1 else 0) → R2 [r0, r1, r2, r3, r4, r5, r6, r7, r8, r9, r10, r11, r12, r13, r14, r15, r16, r17, r18, r19, r20, r21, .val (pl V), .val (mkr V), .val (.int o'), .val (.int u'), .val (pl W), .val (mkr W), .val (.int d)] σ P := by
      intro u' hu
      rw [h2]; refine s_law_b4_3 fun R3 h3 => ?_
      walk_at "vc"
      have eqb : ∀ {Q : PyData → Prop}, Q (.bool false) → kNe (.bool (decide (d = 0))) (.bool (d == 0)) Q := fun h => by
        have e : (d == 0) = decide (d = 0) := by rw [Bool.eq_iff_iff]; simp
        rw [e, kNe_bool]; exact h
      have key3 : R3 [r0, r1, r2, r3, r4, r5, r6, r7, r8, r9, r10, r11, r12, r13, r14, r15, r16, r17, r18, r19, r20, r21, .val (pl V), .val (mkr V), .val (.int o'), .val (.int u'), .val (pl W), .val (mkr W), .val (.int d)] σ P := by
        rw [h3]; unfold q_law_b4_4
        walk_at "vc"
        refine callI hlt (by decide) (callI hle (by decide) (callI hgt (by decide) (callI hge (by decide) ?_)))
        walk_at "vc"
        refine ⟨by decide, by decide, ?_⟩
        subst ho hu
        exact hP'
      refine callI hcmp (by decide) ?_
      walk_at "vc"
      refine ⟨fun q => ⟨fun z => absurd (sgnI_pos q) z, fun _ => callI heq (by decide) (eqb ⟨fun z => (nomatch z), fun _ => key3⟩)⟩, fun q => ⟨fun q' => ⟨fun z => absurd (sgnI_neg q') z, fun _ => callI heq (by decide) (eqb ⟨fun z => (nomatch z), fun _ => key3⟩)⟩,
        fun q' => ⟨fun z => absurd (by rw [show d = 0 by omega]; rfl) z, fun _ => callI heq (by decide) (eqb ⟨fun z => (nomatch z), fun _ => key3⟩)⟩⟩⟩
    exact ⟨fun q => key2 _ (by rw [if_pos (decide_eq_true q)]), fun q => key2 _ (by rw [if_neg (by simpa using q)])⟩
  exact ⟨fun q => key1 _ (by rw [if_pos (decide_eq_true q)]), fun q => key1 _ (by rw [if_neg (by simpa using q)])⟩
end Mine

namespace Mine
open PySem PySem.W PySem.Calls PyProof.Rows PySem.Spec
variable {cx : Cx}
theorem tForZip_intro {i j : Nat} {ts : Ts} {b : Tx} {ρ : List Slot} {σ : List (List PyData)} {P : Post} {ds es : List PyData} (ht : ∀ Q X, Q [.list ds, .list es] → ts ρ σ Q X) (hl : ds.length = es.length) (I : Nat → List Slot → List (List PyData) → Prop) (h0 : I 0 ρ σ)
    (turn : ∀ k d d', ds[k]? = some d → es[k]? = some d' → ∀ ρ σ, I k ρ σ → b ((ρ.set i (.val d)).set j (.val d')) σ (turnP P (I (k + 1)))) (fin : ∀ ρ σ, I ds.length ρ σ → P.nx ρ σ) : tForZip i j ts b ρ σ P := ht _ _ ⟨hl, I, h0, turn, fin⟩
theorem tForEnum_intro {i j : Nat} {t : Tr} {b : Tx} {ρ : List Slot} {σ : List (List PyData)} {P : Post} {ds : List PyData} (ht : ∀ Q X, Q (.list ds) → t ρ σ Q X) (I : Nat → List Slot → List (List PyData) → Prop) (h0 : I 0 ρ σ)
    (turn : ∀ k d, ds[k]? = some d → ∀ ρ σ, I k ρ σ → b ((ρ.set i (.val (.int k))).set j (.val d)) σ (turnP P (I (k + 1)))) (fin : ∀ ρ σ, I ds.length ρ σ → P.nx ρ σ) : tForEnum i j t b ρ σ P := ht _ _ ⟨I, h0, turn, fin⟩
local macro_rules | `(tactic| walk_at "vc") => `(tactic| simp only [tSeq, tSet, tIf, tRet, tSkip, tAug, tAssert, tBin, tTest, tName, tInt, tGlob, tStr, tBool, tNone, tTruth, tNotT, tTrue, tFalse, tAndT, tOrT, tIfE, tNeg, tNot, tOr, tAnd, tNil, tCons, tTup, tList, tSub, tDict, tBl, tB, tCall, tTypeIs, tIsInt, tUnpack, tUnpackR, kAddL, kNe_bool, kNe_l4, tBrk, tCont, tRaise, tOwnSub, tAppend, tSubs2, setOwnQ, tTry2, tTruthL, truthLQ, tCutTo, cutToQ, ownQ_0, ownQ_1, tupQ_tuple,
  slotQ, boolQ, truthQ, intQ, tupQ_tuple, listQ, strQ, subQ_t0, subQ_t1, subQ_l0, kI, kB, kAbs, kInt, kMin, kMax, kDivmod, setAll_cons, setAll_nil, outQ_ok, outQ_err, callPost_rt, callPost_nx, callPost_xx, turnP, kEq_int, kNe_int, kEq_n, kEq_f, kEq_c, kEq_u, kEq_p4, kNe_p4,
  List.getD_cons_zero, List.getD_cons_succ, List.set_cons_zero, List.set_cons_succ, valSlots, List.map_cons, List.map_nil, List.nil_append, List.cons_append, List.append_nil, List.replicate_succ, List.replicate_zero, List.length_cons, List.length_nil,
  true_and, and_true, bne_iff_ne, ne_eq, Bool.not_eq_true', Bool.not_eq_false', decide_eq_true_eq, decide_eq_false_iff_not, beq_iff_eq, beq_eq_false_iff_ne, bne_eq_false_iff_eq, Decidable.not_not, true_implies, Bool.true_eq_false, Bool.false_eq_true, false_implies, implies_true, not_true_eq_false, not_false_eq_true, reduceCtorEq, ok_inj, err_inj, Int.reduceEq, Int.reduceLT, Int.reduceLE, Int.reduceNeg, tupQ_mk, subQ_m0, subQ_m1, kEq_mk, sn_z, natAbs_z, natCast_z, kEq_mm, kNe_mm, bl_m1, bl_m2, bl_m3, Bool.and_false, Bool.false_and, Bool.not_false, Bool.not_true, Bool.and_true, Bool.true_and, Bool.and_eq_true, Bool.and_eq_false_iff])
theorem b3_ok (hK : KK cx) {bits : Nat} (hb2 : bits ≤ 32) {Xs : List (Int × Int)} (hlen : Xs.length = 5) (hX : ∀ X ∈ Xs, Reg bits X) {L Gt V : Int × Int} (hL : L ∈ Xs) (hL' : ∀ y ∈ Xs, wth L ≤ wth y) (hG : Gt ∈ Xs) (hG' : ∀ y ∈ Xs, wth y ≤ wth Gt) (hV : V ∈ Xs)
    {r0 r1 r4 r5 r6 r7 r8 r9 r10 r11 r12 r13 r14 r15 r16 r17 r18 r19 r24 r25 r26 r27 r28 : Slot} {σ : List (List PyData)} {P : Post}
    (hP : ∀ r24 r25 r26 r27 r28, P.nx [r0, r1, .val (.list (Xs.map pl)), .val (.list (Xs.map mkr)), r4, r5, r6, r7, r8, r9, r10, r11, r12, r13, r14, r15, r16, r17, r18, r19, .val (mkr L), .val (mkr Gt), .val (pl V), .val (mkr V), r24, r25, r26, r27, r28] σ) :
    q_law_b3 cx [r0, r1, .val (.list (Xs.map pl)), .val (.list (Xs.map mkr)), r4, r5, r6, r7, r8, r9, r10, r11, r12, r13, r14, r15, r16, r17, r18, r19, .val (mkr L), .val (mkr Gt), .val (pl V), .val (mkr V), r24, r25, r26, r27, r28] σ P := by
  have rV := hX V hV
  have rL := hX L hL
  have rG := hX Gt hG
  refine s_law_b3 fun R0 h0 => ?_
  walk_at "vc"
  refine ⟨by decide, ?_⟩
  rw [h0]; refine s_law_b3_1 fun R1 h1 => ?_
  unfold tSeq
  refine tForZip_intro (ds := Xs.map pl) (es := Xs.map mkr) (fun Q X h => ?_) (by simp) (fun k ρ' σ' => σ' = σ ∧ ∃ r26 r27 r28, ρ' = [r0, r1, .val (.list (Xs.map pl)), .val (.list (Xs.map mkr)), r4, r5, r6, r7, r8, r9, r10, r11, r12, r13, r14, r15, r16, r17, r18, r19, .val (mkr L), .val (mkr Gt), .val (pl V), .val (mkr V), .val (.int (ovN V (Xs.take k))), .val (.int (unN V (Xs.take k))), r26, r27, r28]) ?_ ?_ ?_
  · walk_at "vc"
    exact h
  · exact ⟨rfl, _, _, _, rfl⟩
  · rintro k d d' hd hd' ρ' σ' ⟨rfl, r26, r27, r28, rfl⟩
    rw [List.getElem?_map] at hd hd'
    obtain ⟨W, hW, rfl⟩ := Option.map_eq_some_iff.mp hd
    rw [hW] at hd'
    cases hd'
    have rW := hX W (List.mem_of_getElem? hW)
    refine b4_ok hK hb2 rV rW fun r28 => ⟨rfl, .val (pl W), .val (mkr W), r28, ?_⟩
    unfold ovN unN
    rw [cnt_take hW, cnt_take hW]
  · rintro ρ' σ' ⟨rfl, r26, r27, r28, rfl⟩
    dsimp only
    rw [List.length_map, List.take_length]
    rw [h1]; refine s_law_b3_2 fun R2 h2 => ?_
    have eqO : ovN V Xs = 5 → Gt = V := fun q => by
      have hall := cnt_all (p := fun W => decide (0 ≤ dif V W)) (l := Xs) (by unfold ovN at q; rw [q, hlen]; rfl) Gt hG
      have s1 := dif_sign (V := V) (W := Gt) rV.2.2.1 rG.2.2.1
      have h1 : 0 ≤ dif V Gt := of_decide_eq_true hall
      have h2 := hG' V hV
      have := same_of_wth rG rV (by omega)
      exact Prod.ext this.1 this.2
    have eqU : unN V Xs = 5 → L = V := fun q => by
      have hall := cnt_all (p := fun W => decide (dif V W ≤ 0)) (l := Xs) (by unfold unN at q; rw [q, hlen]; rfl) L hL
      have s1 := dif_sign (V := V) (W := L) rV.2.2.1 rL.2.2.1
      have h1 : dif V L ≤ 0 := of_decide_eq_true hall
      have h2 := hL' V hV
      have := same_of_wth rL rV (by omega)
      exact Prod.ext this.1 this.2
    generalize ovN V Xs = oo at *
    generalize unN V Xs = uu at *
    have key : R2 [r0, r1, .val (.list (Xs.map pl)), .val (.list (Xs.map mkr)), r4, r5, r6, r7, r8, r9, r10, r11, r12, r13, r14, r15, r16, r17, r18, r19, .val (mkr L), .val (mkr Gt), .val (pl V), .val (mkr V), .val (.int oo), .val (.int uu), r26, r27, r28] σ' P := by
      rw [h2]; unfold q_law_b3_3
      obtain ⟨v1, v2, v3, v4⟩ := rV
      walk_at "vc"
      refine callI (to_rational_ok hK (by omega) ⟨by omega, by omega⟩) (by decide) ?_
      have b1 : (bl 1 : Int) = 1 := by decide
      refine ⟨fun q => ⟨⟨q, by omega⟩, by decide, ?_⟩, fun q => ⟨⟨by omega, by omega⟩, by decide, ?_⟩⟩
      · rw [if_pos q]; exact kNe_p2 ⟨fun z => (nomatch z), fun _ => hP _ _ _ _ _⟩
      · rw [if_neg q, Int.one_mul]; exact kNe_p2 ⟨fun z => (nomatch z), fun _ => hP _ _ _ _ _⟩
    walk_at "vc"
    have nO : oo = 5 → ¬ (¬ Gt.1 = V.1 ∨ ¬ Gt.2 = V.2) := fun q z => by rw [eqO q] at z; exact z.elim (fun y => y rfl) fun y => y rfl
    have nU : uu = 5 → ¬ (¬ L.1 = V.1 ∨ ¬ L.2 = V.2) := fun q z => by rw [eqU q] at z; exact z.elim (fun y => y rfl) fun y => y rfl
    exact ⟨fun q => ⟨fun z => absurd z (nO q), fun _ => ⟨fun q' => ⟨fun z => absurd z (nU q'), fun _ => key⟩, fun _ => key⟩⟩, fun _ => ⟨fun q' => ⟨fun z => absurd z (nU q'), fun _ => key⟩, fun _ => key⟩⟩
/-- the law's end: order, least, greatest, fractions -/
theorem law_end (hK : KK cx) {xs : List Int} {bits : Nat} (hb2 : bits ≤ 32) {Xs : List (Int × Int)} (hlen : Xs.length = 5) (hX : ∀ X ∈ Xs, Reg bits X) {r4 r5 r6 r7 r8 r9 r10 r11 r12 r13 r14 r15 r16 r17 r18 r19 r20 r21 r22 r23 r24 r25 r26 r27 r28 : Slot} :
    q_law_5 cx [.val (.list (xs.map .int)), .val (.int bits), .val (.list (Xs.map pl)), .val (.list (Xs.map mkr)), r4, r5, r6, r7, r8, r9, r10, r11, r12, r13, r14, r15, r16, r17, r18, r19, r20, r21, r22, r23, r24, r25, r26, r27, r28] [] (callPost (.ok (.bool true))) := by
  obtain ⟨x, l, rfl⟩ : ∃ x l, Xs = x :: l := by
    cases Xs with
    | nil => simp at hlen
    | cons x l => exact ⟨x, l, rfl⟩
  have hl4 : l.length = 4 := by simpa using hlen
  have hL : l.foldl minS x ∈ x :: l := fold_mem minS_or l x
  have hG : l.foldl maxS x ∈ x :: l := fold_mem maxS_or l x
  have hL' := min_le' l x hX
  have hG' := max_ge l x hX
  refine s_law_5 fun R0 h0 => ?_
  walk_at "vc"
  refine callI (min_max_ok hK (x := x) (l := l) (by omega) fun y hy => ?_) (by decide) ?_
  · obtain ⟨y1, y2, y3, y4⟩ := hX y hy
    exact ⟨y1, by omega, by omega, by omega⟩
  generalize l.foldl minS x = L at *
  generalize l.foldl maxS x = Gt at *
  walk_at "vc"
  generalize hXs : x :: l = Xs at *
  have e1 : pl x :: l.map pl = Xs.map pl := by rw [← hXs]; rfl
  have e2 : mkr x :: l.map mkr = Xs.map mkr := by rw [← hXs]; rfl
  rw [e1, e2, h0]; refine s_law_6 fun R1 h1 => ?_
  unfold tSeq
  refine tForZip_intro (ds := Xs.map pl) (es := Xs.map mkr) (fun Q X h => ?_) (by simp) (fun k ρ' σ' => σ' = [] ∧ ∃ r22 r23 r24 r25 r26 r27 r28, ρ' = [.val (.list (xs.map .int)), .val (.int bits), .val (.list (Xs.map pl)), .val (.list (Xs.map mkr)), r4, r5, r6, r7, r8, r9, r10, r11, r12, r13, r14, r15, r16, r17, r18, r19, .val (mkr L), .val (mkr Gt), r22, r23, r24, r25, r26, r27, r28]) ?_ ?_ ?_
  · walk_at "vc"
    exact h
  · exact ⟨rfl, _, _, _, _, _, _, _, rfl⟩
  · rintro k d d' hd hd' ρ' σ' ⟨rfl, r22, r23, r24, r25, r26, r27, r28, rfl⟩
    rw [List.getElem?_map] at hd hd'
    obtain ⟨V, hV, rfl⟩ := Option.map_eq_some_iff.mp hd
    rw [hV] at hd'
    cases hd'
    exact b3_ok hK hb2 hlen hX hL hL' hG hG' (List.mem_of_getElem? hV) fun r24 r25 r26 r27 r28 => ⟨rfl, .val (pl V), .val (mkr V), r24, r25, r26, r27, r28, rfl⟩
  · rintro ρ' σ' ⟨rfl, r22, r23, r24, r25, r26, r27, r28, rfl⟩
    dsimp only
    rw [h1]; unfold q_law_7
    walk_at "vc"
theorem take_int {n : Nat} {xs : List Int} : (xs.map PyData.int).take n = (xs.take n).map .int := (List.map_take ..).symm
/-- the law itself, no program in sight -/
theorem law_mid (hK : KK cx) {s₁ : Shared} {Pa : Addr} (G : KG cx s₁ 365 Pa 4) {xs : List Int} (hxs : xs.length ≤ 100) {bits : Nat} (hb : 1 ≤ bits) (hb2 : bits ≤ 32) {Xs : List (Int × Int)} (hlen : Xs.length = 5) (hX : ∀ X ∈ Xs, Reg bits X) {r4 r5 r6 r7 r8 r9 r10 r11 r12 r13 r14 r15 r16 r17 r18 r19 r20 r21 r22 r23 r24 r25 r26 r27 r28 : Slot} :
    q_law_4 cx [.val (.list (xs.map .int)), .val (.int bits), .own 0, .own 1, r4, r5, r6, r7, r8, r9, r10, r11, r12, r13, r14, r15, r16, r17, r18, r19, r20, r21, r22, r23, r24, r25, r26, r27, r28] [Xs.map pl, Xs.map mkr] (callPost (.ok (.bool true))) := by
  refine s_law_4 fun R0 h0 => ?_
  unfold tSeq
  refine tForEnum_intro (ds := (xs.take 24).map .int) (fun Q X h => ?_) (fun k ρ' σ' => ∃ Ys : List (Int × Int), Ys.length = 5 ∧ (∀ X ∈ Ys, Reg bits X) ∧ σ' = [Ys.map pl, Ys.map mkr] ∧ ∃ r4 r5 r6 r7 r8 r9 r10 r11 r12 r13 r14 r15 r16 r17 r18 r19 r20 r21 r22 r23 r24 r25 r26 r27 r28, ρ' = [.val (.list (xs.map .int)), .val (.int bits), .own 0, .own 1, r4, r5, r6, r7, r8, r9, r10, r11, r12, r13, r14, r15, r16, r17, r18, r19, r20, r21, r22, r23, r24, r25, r26, r27, r28]) ?_ ?_ ?_
  · walk_at "vc"
    refine ⟨by rw [List.length_map]; omega, ?_⟩
    rw [show (24 : Int).toNat = 24 from rfl, take_int]; exact h
  · exact ⟨Xs, hlen, hX, rfl, _, _, _, _, _, _, _, _, _, _, _, _, _, _, _, _, _, _, _, _, _, _, _, _, _, rfl⟩
  · rintro k d hd ρ' σ' ⟨Ys, hl, hY, rfl, r4, r5, r6, r7, r8, r9, r10, r11, r12, r13, r14, r15, r16, r17, r18, r19, r20, r21, r22, r23, r24, r25, r26, r27, r28, rfl⟩
    have hk : k < 24 := by
      have := (List.getElem?_eq_some_iff.mp hd).1
      simp at this; omega
    rw [List.getElem?_map] at hd
    obtain ⟨x, hx, rfl⟩ := Option.map_eq_some_iff.mp hd
    exact b2_ok hK G hb hb2 hl hY hk (fun Zs r9 r10 r11 r12 r13 r14 r15 r16 r17 r18 r19 h1 h2 => ⟨Zs, h1, h2, rfl, r4, .val (.int k), .val (.int x), r7, r8, r9, r10, r11, r12, r13, r14, r15, r16, r17, r18, r19, r20, r21, r22, r23, r24, r25, r26, r27, r28, rfl⟩) (fun r9 r10 r11 r12 r13 r14 r15 r16 r17 r18 r19 => ⟨Ys, hl, hY, rfl, r4, .val (.int k), .val (.int x), r7, r8, r9, r10, r11, r12, r13, r14, r15, r16, r17, r18, r19, r20, r21, r22, r23, r24, r25, r26, r27, r28, rfl⟩)
  · rintro ρ' σ' ⟨Ys, hl, hY, rfl, r4, r5, r6, r7, r8, r9, r10, r11, r12, r13, r14, r15, r16, r17, r18, r19, r20, r21, r22, r23, r24, r25, r26, r27, r28, rfl⟩
    dsimp only
    rw [h0]
    exact law_end hK hb2 hl hY
theorem law_ok (hK : KK cx) {s₁ : Shared} {Pa : Addr} (G : KG cx s₁ 365 Pa 4) {xs : List Int} (hxs : xs.length ≤ 100) : TopOK cx 373 [.list (xs.map .int)] (.bool true) := by
  refine w_law hK rfl ?_
  refine s_law fun R0 h0 => ?_
  have key : ∀ (bits : Nat) (r2 r3 r4 r5 r6 r7 r8 r9 r10 r11 r12 r13 r14 r15 r16 r17 r18 r19 r20 r21 r22 r23 r24 r25 r26 r27 r28 : Slot), 1 ≤ bits → bits ≤ 32 → R0 [.val (.list (xs.map .int)), .val (.int bits), r2, r3, r4, r5, r6, r7, r8, r9, r10, r11, r12, r13, r14, r15, r16, r17, r18, r19, r20, r21, r22, r23, r24, r25, r26, r27, r28] [] (callPost (.ok (.bool true))) := by
    intro bits r2 r3 r4 r5 r6 r7 r8 r9 r10 r11 r12 r13 r14 r15 r16 r17 r18 r19 r20 r21 r22 r23 r24 r25 r26 r27 r28 hb hb2
    rw [h0]; refine s_law_1 fun R1 h1 => ?_
    unfold tSeq tTwo
    show R1 [.val (.list (xs.map .int)), .val (.int bits), .own 0, .own 1, r4, r5, r6, r7, r8, r9, r10, r11, r12, r13, r14, r15, r16, r17, r18, r19, r20, r21, r22, r23, r24, r25, r26, r27, r28] [[], []] (callPost (.ok (.bool true)))
    rw [h1]; refine s_law_2 fun R2 h2 => ?_
    walk_at "vc"
    have hys : ∃ ys : List Int, ys.length = 5 ∧ ((xs.map PyData.int).take (5 : Int).toNat ++ [PyData.int 7, PyData.int (-5), PyData.int 3, PyData.int 1000, PyData.int (-1)]).take (5 : Int).toNat = ys.map .int :=
      ⟨(xs.take 5 ++ [7, -5, 3, 1000, -1]).take 5, by simp only [List.length_append, List.length_take, List.length_cons, List.length_nil]; omega, by rw [show (5 : Int).toNat = 5 from rfl, List.map_take, List.map_append, List.map_take]; try rfl⟩
    obtain ⟨ys, hy5, hys⟩ := hys
    refine ⟨by rw [List.length_map]; omega, by decide, by rw [List.length_take, List.length_map]; omega, by rw [List.length_append, List.length_take, List.length_map]; show _ + 5 ≤ _; omega, ?_⟩
    rw [hys, h2]; refine s_law_3 fun R3 h3 => ?_
    unfold tSeq
    refine tForEnum_intro (ds := ys.map .int) (fun Q X h => ?_) (fun k ρ' σ' => ∃ Ys : List (Int × Int), Ys.length = k ∧ (∀ X ∈ Ys, Reg bits X) ∧ σ' = [Ys.map pl, Ys.map mkr] ∧ ∃ r4 r5 r6 r7 r8 r9 r10 r11 r12 r13 r14 r15 r16 r17 r18 r19 r20 r21 r22 r23 r24 r25 r26 r27 r28, ρ' = [.val (.list (xs.map .int)), .val (.int bits), .own 0, .own 1, r4, r5, r6, r7, r8, r9, r10, r11, r12, r13, r14, r15, r16, r17, r18, r19, r20, r21, r22, r23, r24, r25, r26, r27, r28]) ?_ ?_ ?_
    · walk_at "vc"
      exact h
    · exact ⟨[], rfl, (fun _ h => nomatch h), rfl, _, _, _, _, _, _, _, _, _, _, _, _, _, _, _, _, _, _, _, _, _, _, _, _, _, rfl⟩
    · rintro k d hd ρ' σ' ⟨Ys, hl, hY, rfl, r4, r5, r6, r7, r8, r9, r10, r11, r12, r13, r14, r15, r16, r17, r18, r19, r20, r21, r22, r23, r24, r25, r26, r27, r28, rfl⟩
      have hk : k < 5 := by
        have := (List.getElem?_eq_some_iff.mp hd).1
        rw [List.length_map] at this; omega
      rw [List.getElem?_map] at hd
      obtain ⟨x, hx, rfl⟩ := Option.map_eq_some_iff.mp hd
      exact b1_ok hK G hb hb2 hl hk fun X r7 r8 r9 hX => ⟨Ys ++ [X], by rw [List.length_append, hl]; rfl, fun Z hZ => (List.mem_append.mp hZ).elim (hY Z) fun q => List.mem_singleton.mp q ▸ hX, by rw [List.map_append, List.map_append]; rfl, r4, .val (.int k), .val (.int x), r7, r8, r9, r10, r11, r12, r13, r14, r15, r16, r17, r18, r19, r20, r21, r22, r23, r24, r25, r26, r27, r28, rfl⟩
    · rintro ρ' σ' ⟨Ys, hl, hY, rfl, r4, r5, r6, r7, r8, r9, r10, r11, r12, r13, r14, r15, r16, r17, r18, r19, r20, r21, r22, r23, r24, r25, r26, r27, r28, rfl⟩
      dsimp only
      rw [h3]
      exact law_mid hK G hxs hb hb2 (by rw [hl, List.length_map]; exact hy5) hY
  walk_at "vc"
  refine ⟨by rw [List.length_map]; omega, fun q => ?_, fun q => key 10 _ _ _ _ _ _ _ _ _ _ _ _ _ _ _ _ _ _ _ _ _ _ _ _ _ _ _ (by decide) (by decide)⟩
  cases xs with
  | nil => simp at q
  | cons x r =>
    walk_at "vc"
    obtain ⟨f1, f2⟩ := fmod_lt (a := x) (b := 32) (by decide)
    have := key (1 + x.fmod 32).toNat .undef .undef .undef .undef .undef .undef .undef .undef .undef .undef .undef .undef .undef .undef .undef .undef .undef .undef .undef .undef .undef .undef .undef .undef .undef .undef .undef (by omega) (by omega)
    rw [show (((1 + x.fmod 32).toNat : Nat) : Int) = 1 + x.fmod 32 by omega] at this
    exact this
end Mine

namespace Mine
open PySem PySem.W PySem.Calls PyProof.Rows PySem.Spec

theorem bound_of {h : Heap} : ∀ n : Nat, (∀ b o, h.get? b = some o → b < n) → (∃ b o, h.get? b = some o) → ∃ N : Nat, (∀ b o, h.get? b = some o → b < N) ∧ ∃ m o, N = m + 1 ∧ h.get? m = some o
  | 0, hb, ⟨b, o, e⟩ => absurd (hb b o e) (Nat.not_lt_zero _)
  | n + 1, hb, he => by
    cases q : h.get? n with
    | some o => exact ⟨n + 1, hb, n, o, rfl, q⟩
    | none => exact bound_of n (fun b o e => Nat.lt_of_le_of_ne (Nat.le_of_lt_succ (hb b o e)) fun z => by rw [z, q] at e; cases e) he

def tbFree (K : Frag) : Bool := K.all fun p => decide (p.2.cls ≠ .none) || match p.2.data with
  | .fields _ => false
  | _ => true
theorem tbFree_ok {K : Frag} (h : tbFree K = true) {a : Addr} {o : Obj} (e : K.lookup a = some o) : ¬ Tb o := by
  rintro ⟨h1, vs, h2⟩
  have hm : (a, o) ∈ K := by
    clear h
    induction K with
    | nil => simp at e
    | cons p r ih =>
      rw [List.lookup_cons] at e
      split at e
      · rename_i q
        have : a = p.1 := by simpa using q
        cases e; rw [this]; exact .head _
      · exact .tail _ (ih e)
  have := List.all_eq_true.mp h (a, o) hm
  simp [h1, h2] at this
theorem tb_K (P : Params) : tbFree (hd.heap_39 P) = true := by kernel_rfl

theorem rds_ints {h : Heap} {X : List Addr} : ∀ {vs : List Value} {xs : List Int}, IntsAre vs xs → Rds h X vs (xs.map .int)
  | _, _, .nil => .nil
  | _, _, .cons n t r => .cons (.int _ _) (rds_ints r)

theorem code_keeps {h h' : Heap} {c P : Addr} {ps : Array Value} (hc : ∀ o, h.get? c = some o → h'.get? c = some o) (hP : ∀ o, h.get? P = some o → h'.get? P = some o) (x : h.IsCode c P ps ∧ h.TableAt c P ps) : h'.IsCode c P ps ∧ h'.TableAt c P ps := by
  obtain ⟨⟨o, vs, file, tf, flags, tg, inF, text, tt, op, a1, r1, r2, r3, r4, r5, r6, b1, r⟩, ⟨oc, vc, hoc, rc⟩, t⟩ := x
  exact ⟨⟨o, vs, file, tf, flags, tg, inF, text, tt, op, hc _ a1, r1, r2, r3, r4, r5, r6, hP _ b1, r⟩, ⟨oc, vc, hc _ hoc, rc⟩, hP _ t⟩

theorem law_top {prog p : Program} {w : World} {s₁ : Shared} {mg mb : Str → Option Value} {loose : List Str} {mean : ExcName → Option Value} {fa a : Addr} {d : DefRec} {vs : List Value} {xs : List Int} {R : Result → Shared → Prop}
    (T : Top p loose mean mg mb s₁.heap) (KX : (hd.heap_39 w.params).In s₁.heap) (hg : s₁.gens = #[]) (hmg : mg (Str.ofString "law") = some (.ref fa)) (hrec : (recsOf p).find? (fun e => e.name == Str.ofString "_law_same") = some d)
    (hL : s₁.heap.IsList a vs.toArray) (hI : IntsAre vs xs) (hlen : xs.length ≤ 100)
    (hR : ∀ s', OldK s₁.heap s'.heap → s'.os = s₁.os → AllBare s'.gens → R (.ok (.ret (.bool true))) s') :
    codeAny (model prog w) callerA (.call (.ref fa) ⟨[.ref a], []⟩) R s₁ := by
  have hfa : fa = 373 := by
    have h1 := mg_of KX T.g (show nsIn (hd.heap_39 w.params) mainGlobals (Str.ofString "law") = some (some (.ref 373)) by kernel_rfl)
    rw [hmg] at h1
    exact Value.ref.inj (Option.some.inj h1)
  subst hfa
  obtain ⟨o366, h366, fd366, hd366, hc366⟩ : ∃ o, (hd.heap_39 w.params).lookup 366 = some o ∧ ∃ fd, o.data = .func fd ∧ fd.code = .ref 365 := ⟨_, rfl, _, rfl, rfl⟩
  have hm366 := mg_of KX T.g (show nsIn (hd.heap_39 w.params) mainGlobals (Str.ofString "_law_same") = some (some (.ref 366)) by kernel_rfl)
  obtain ⟨c, P, hcc, B⟩ := based_of_top T hrec hm366 (KX _ _ h366) hd366
  have hc : c = 365 := by rw [hc366] at hcc; exact (Value.ref.inj hcc).symm
  subst hc
  have M : ∃ ob, s₁.heap.get? 4 = some ob ∧ ob.cls = .type "module" ∧ ob.dict = some builtinsNs ∧ ob.data = .plain := by
    obtain ⟨bm, ob, M⟩ := bmod_of_top T
    have h1 := mg_of KX T.g (show nsIn (hd.heap_39 w.params) mainGlobals ("__builtins__" : Str) = some (some (.ref 4)) by kernel_rfl)
    have h2 := M.name
    rw [h1] at h2
    have : bm = 4 := (Value.ref.inj (Option.some.inj h2)).symm
    subst this
    exact ⟨ob, M.obj, M.cls, M.dict, M.data⟩
  obtain ⟨N, hN, m, om, hNm, hm⟩ := bound_of s₁.heap.objs.size (fun b o e => Heap.lt_size e) ⟨_, _, KX _ _ h366⟩
  have inN : ∀ {b o}, s₁.heap.get? b = some o → b < N := fun e => hN _ _ e
  obtain ⟨pc, pt⟩ : s₁.heap.IsCode 365 P #[] ∧ s₁.heap.TableAt 365 P #[] := ⟨B.code, B.tab⟩
  have i365 : (s₁.heap.get? 365).isSome = true := by obtain ⟨⟨oc, vc, hoc, _⟩, _⟩ := pt; rw [hoc]; rfl
  have iP : (s₁.heap.get? P).isSome = true := by rw [pt.2]; rfl
  let cx : Cx := {
    prog := prog, w := w, K := hd.heap_39 w.params, p := p, loose := loose, mg := mg, mb := mb, N := N
    I := fun b => (s₁.heap.get? b).isSome = true
    ilt := fun b hb => by
      obtain ⟨o, ho⟩ := Option.isSome_iff_exists.mp hb
      exact hN b o ho
    GI := fun w s => w = [] ∧ OldK s₁.heap s.heap ∧ s.os = s₁.os ∧ AllBare s.gens ∧ ∃ ps, s.heap.IsCode 365 P ps ∧ s.heap.TableAt 365 P ps
    stable := fun w s s' ⟨h1, h2, h3, h4, ps, h5⟩ hos hgs hk => ⟨h1, oldK_sub h2 fun b o hb e => hk b o e (.inl hb), hos.trans h3, hgs ▸ h4, ps, code_keeps (fun o e => hk _ o e (.inl i365)) (fun o e => hk _ o e (.inl iP)) h5⟩
    ihas := fun w s b ⟨_, h2, _⟩ hb => by
      obtain ⟨o, ho⟩ := Option.isSome_iff_exists.mp hb
      exact h2.there b o ho
    whas := fun w s b ⟨h1, _⟩ hb => by subst h1; cases hb
    low := fun w s ⟨_, h2, _⟩ => by
      obtain ⟨o', ho'⟩ := h2.there m om hm
      rw [hNm]; exact Heap.lt_size ho'
    kb := fun a o e => ⟨tbFree_ok (tb_K w.params) e, inN (KX a o e)⟩
    tg := by obtain ⟨o, _, _, h, _⟩ := T.g; exact inN h
    tb := by obtain ⟨o, _, _, h, _⟩ := T.b; exact inN h
    tc := by obtain ⟨_, ⟨o, _, _, h, _⟩, _⟩ := T.nolimit; exact inN h }
  have hK : KK cx := rfl
  have G : KG cx s₁ 365 P 4 := ⟨fun w s => Iff.rfl, ⟨_, pt⟩, fun b o e => hN b o e, M⟩
  have ok := law_ok hK G hlen
  obtain ⟨o, ho, hcl, n, hda⟩ := hL
  refine ok s₁ [] [.ref a] R KX (topRead_of T) ⟨rfl, .refl _, rfl, .of_eq hg, _, pc, pt⟩ (.cons (.list ho hcl hda (fun q => nomatch q) (rds_ints hI)) .nil) fun u s' w' ⟨_, g2, g3, g4, _⟩ r => ?_
  cases r
  exact hR s' g2 g3 g4
end Mine

open PySem PySem.W PySem.Calls PyProof.Rows PySem.Spec
set_option maxRecDepth 100000 in
set_option maxHeartbeats 8000000 in
theorem PySem.Challenge.cw_bg5013_01_holds : PySem.Challenge.rw_bg5013_01.Holds :=
  Mine.hd (by
  intro w s₀ s₁ mg mb G Y fa o pm cd doc dV kV ho hd hcd hD hmg hg args vals as hpre hlay hrd hwl hlo
  have KX := kIn_of Y
  refine Ground.open G ?_
  intro T B D TE TW
  clear ho hd hcd hD
  wrow_args hpre hlay hrd hwl hlo
  all_goals (refine enter_call ?_)
  rename_i xs hs hlay0 hL1 hr1 hl2 w4 w3 a vs w0 hL ra w1 r0 hI hr hc1 hc2
  refine Mine.law_top T KX hg hmg rfl hL hI (by omega) fun s' k1 k2 k3 => ?_
  refine ⟨.inl ⟨.bool true, .bool true, [], rfl, fun _ => rfl, .bool _, ?_, fun _ => ⟨List.nodup_nil, fun _ h => nomatch h⟩⟩, k1, k2, k3⟩
  exact postW_of (by wrow_shape) (by wtm_val) (by str_meet; first | done | w_fin))

