import PyProof.Rows.All
import Wide.All
import OpenK.AllK
import Wide.FinOn
import PySem.Challenge.RW_ah5030_01
open PySem PySem.W PyProof.Rows
set_option Elab.async false
set_option maxRecDepth 100000
set_option maxHeartbeats 8000000
set_option linter.unusedVariables false
set_option linter.unusedSimpArgs false
namespace Mine
open_top hd for PySem.Challenge.rw_ah5030_01
open PySem PySem.W PySem.W.X PyProof.Rows PySem.Calls

-- B1
section
-- one owned thing: a heap object with a word about it, or a generator's state
inductive Cl where
  | o (a : Addr) (P : Obj → Prop)
  | g (n : Nat) (st : GenState)
abbrev SH := List Cl
def Cl.key : Cl → Nat
  | .o a _ => 2 * a
  | .g n _ => 2 * n + 1
def Cl.At (h : Heap) (g : Array GenState) : Cl → Prop
  | .o a P => ∃ o, h.get? a = some o ∧ P o
  | .g n st => g[n]? = some st

noncomputable abbrev KF (w : World) : Frag := hd.heap_39 w.params
abbrev prog : Program := PySem.Challenge.rw_ah5030_01.row.prog

-- what never changes: the text's own things, names
structure WF (w : World) (G : Heap) : Prop where
  K : (KF w).In G
  top : ∃ mg mb, G.Ns mainGlobals mg ∧ G.Ns builtinsNs mb ∧ (∀ x : Str, x ≠ "__name__" → mb x = bootBuiltins x) ∧
    (∃ bm ob, mg "__builtins__" = some (.ref bm) ∧ bm ≠ builtinsNs ∧ G.get? bm = some ob ∧ ob.cls = .type "module" ∧ ob.dict = some builtinsNs ∧ ob.data = .plain)
  nolimit : G.NoLimit
  nodigits : ∃ mc, G.Ns cStatics mc ∧ mc "sys.int_max_str_digits" = none
  noSeer : G.NoSeer

structure Own (w : World) (G : Heap) (h : Heap) (g : Array GenState) (σ : SH) : Prop where
  wf : WF w G
  keep : ∀ b o, G.get? b = some o → h.get? b = some o
  at' : ∀ c ∈ σ, c.At h g
  low : ∀ a P, Cl.o a P ∈ σ → G.get? a = none
  nodup : (σ.map Cl.key).Nodup
  bare : AllBare g

section own
variable {w : World} {G h h' : Heap} {g g' : Array GenState} {σ τ : SH}

theorem Own.get (O : Own w G h g σ) {a : Addr} {P : Obj → Prop} (m : Cl.o a P ∈ σ) : ∃ o, h.get? a = some o ∧ P o := O.at' _ m
theorem Own.gen (O : Own w G h g σ) {n : Nat} {st : GenState} (m : Cl.g n st ∈ σ) : g[n]? = some st := O.at' _ m
theorem Own.sub (O : Own w G h g σ) (hs : ∀ c ∈ τ, c ∈ σ) (hn : (τ.map Cl.key).Nodup) : Own w G h g τ :=
  ⟨O.wf, O.keep, fun c hc => O.at' c (hs c hc), fun a P m => O.low a P (hs _ m), hn, O.bare⟩
theorem Own.perm (O : Own w G h g σ) (hp : σ.Perm τ) : Own w G h g τ :=
  O.sub (fun _ hc => hp.mem_iff.mpr hc) ((hp.map _).nodup_iff.mp O.nodup)
theorem Own.sublist (O : Own w G h g σ) (hp : τ.Sublist σ) : Own w G h g τ :=
  O.sub (fun _ hc => hp.subset hc) ((hp.map _).nodup O.nodup)
theorem Own.push (O : Own w G h g σ) {o : Obj} (hf : o.isFreed = false) {P : Obj → Prop} (hP : P o) : Own w G (h.push o) g (.o h.objs.size P :: σ) where
  wf := O.wf
  keep := fun b o' e => Heap.get?_push_of_some _ (O.keep b o' e)
  at' := fun c hc => by
    rcases List.mem_cons.mp hc with rfl | hc
    · exact ⟨o, Heap.get?_push_size _ hf, hP⟩
    · have := O.at' c hc
      cases c with
      | o a Q => obtain ⟨o', e, q⟩ := this; exact ⟨o', Heap.get?_push_of_some _ e, q⟩
      | g n st => exact this
  low := fun a Q m => by
    rcases List.mem_cons.mp m with e | m
    · cases e
      cases q : G.get? h.objs.size with
      | none => rfl
      | some o' => exact absurd (Heap.lt_size (O.keep _ _ q)) (Nat.lt_irrefl _)
    · exact O.low a Q m
  nodup := by
    rw [List.map_cons]
    refine List.nodup_cons.mpr ⟨fun hm => ?_, O.nodup⟩
    obtain ⟨c, hc, hk⟩ := List.mem_map.mp hm
    have := O.at' c hc
    cases c with
    | o a Q =>
      obtain ⟨o', e, _⟩ := this
      have l : @LT.lt Nat _ a h.objs.size := Heap.lt_size e
      have hk' : @Eq Nat (2 * a) (2 * h.objs.size) := hk
      omega
    | g n st =>
      have hk' : @Eq Nat (2 * n + 1) (2 * h.objs.size) := hk
      omega
  bare := O.bare

-- heaps that only grow (or keep all that is owned)
theorem Own.keeps (O : Own w G h g σ) (hk : ∀ b o, h.get? b = some o → h'.get? b = some o) : Own w G h' g σ where
  wf := O.wf
  keep := fun b o e => hk b o (O.keep b o e)
  at' := fun c hc => by
    have := O.at' c hc
    cases c with
    | o a Q => obtain ⟨o', e, q⟩ := this; exact ⟨o', hk _ _ e, q⟩
    | g n st => exact this
  low := O.low
  nodup := O.nodup
  bare := O.bare

inductive Upd (a : Addr) (P P' : Obj → Prop) : SH → SH → Prop
  | head {r} : Upd a P P' (.o a P :: r) (.o a P' :: r)
  | tail {c r r'} : Upd a P P' r r' → Upd a P P' (c :: r) (c :: r')
theorem Upd.split {a : Addr} {P P' : Obj → Prop} : ∀ {σ τ : SH}, Upd a P P' σ τ → ∃ pre post, σ = pre ++ .o a P :: post ∧ τ = pre ++ .o a P' :: post
  | _, _, .head => ⟨[], _, rfl, rfl⟩
  | _, _, .tail (c := c) u => let ⟨p, q, e, e'⟩ := u.split; ⟨c :: p, q, by rw [e]; rfl, by rw [e']; rfl⟩
theorem Upd.mem {a : Addr} {P P' : Obj → Prop} {σ τ : SH} (u : Upd a P P' σ τ) : Cl.o a P ∈ σ := by
  obtain ⟨p, q, rfl, _⟩ := u.split; exact List.mem_append_right _ (.head _)
theorem Upd.keys {a : Addr} {P P' : Obj → Prop} {σ τ : SH} (u : Upd a P P' σ τ) : τ.map Cl.key = σ.map Cl.key := by
  obtain ⟨p, q, rfl, rfl⟩ := u.split; simp [Cl.key]

-- one object changed
theorem Own.upd (O : Own w G h g σ) {a : Addr} {P P' : Obj → Prop} (u : Upd a P P' σ τ) (hs : ∀ b o, b ≠ a → h.get? b = some o → h'.get? b = some o)
    (hn : ∃ o, h'.get? a = some o ∧ P' o) : Own w G h' g τ := by
  have nd : (τ.map Cl.key).Nodup := by rw [u.keys]; exact O.nodup
  have nd0 := O.nodup
  obtain ⟨pre, post, rfl, rfl⟩ := u.split
  have ne : ∀ c ∈ pre ++ post, c.key ≠ 2 * a := by
    intro c hc
    have h1 := (List.perm_middle (l₁ := pre) (a := Cl.o a P) (l₂ := post)).map Cl.key
    have h2 := h1.nodup_iff.mp nd0
    rw [List.map_cons] at h2
    intro q
    exact (List.nodup_cons.mp h2).1 (by rw [show (Cl.o a P).key = c.key from q.symm]; exact List.mem_map_of_mem hc)
  have old : ∀ c ∈ pre ++ post, c.At h' g := by
    intro c hc
    have h1 : c ∈ pre ++ .o a P :: post := by
      rcases List.mem_append.mp hc with q | q
      · exact List.mem_append_left _ q
      · exact List.mem_append_right _ (.tail _ q)
    have := O.at' c h1
    have n := ne c hc
    cases c with
    | o b Q => obtain ⟨o', e, q⟩ := this; exact ⟨o', hs b o' (fun z => n (by rw [z]; rfl)) e, q⟩
    | g n st => exact this
  refine ⟨O.wf, fun b o e => hs b o (fun z => ?_) (O.keep b o e), fun c hc => ?_, fun b Q m => ?_, nd, O.bare⟩
  · subst z
    have := O.low b P (List.mem_append_right _ (.head _))
    rw [this] at e; cases e
  · rcases List.mem_append.mp hc with q | q
    · exact old c (List.mem_append_left _ q)
    · rcases List.mem_cons.mp q with rfl | q
      · exact hn
      · exact old c (List.mem_append_right _ q)
  · rcases List.mem_append.mp m with q | q
    · exact O.low b Q (List.mem_append_left _ q)
    · rcases List.mem_cons.mp q with e | q
      · cases e; exact O.low a P (List.mem_append_right _ (.head _))
      · exact O.low b Q (List.mem_append_right _ (.tail _ q))

theorem Own.update (O : Own w G h g σ) {a : Addr} {P P' : Obj → Prop} (u : Upd a P P' σ τ) {f : Obj → Obj} (hf : ∀ o, P o → (f o).isFreed = false ∧ P' (f o)) : Own w G (h.update a f) g τ := by
  obtain ⟨o, ho, hp⟩ := O.get u.mem
  have hs : Heap.SameBut a h (h.update a f) := Heap.SameBut.update ..
  refine O.upd u (fun b o' nb e => (hs.2 b nb).trans e) ⟨f o, Heap.get?_update_self f ho (hf o hp).1, (hf o hp).2⟩
theorem Own.same (O : Own w G h g σ) {a : Addr} {P P' : Obj → Prop} (u : Upd a P P' σ τ) (hs : Heap.SameBut a h h') (hn : ∃ o, h'.get? a = some o ∧ P' o) : Own w G h' g τ :=
  O.upd u (fun b _ nb e => (hs.2 b nb).trans e) hn
-- a word weakened
theorem Own.weak (O : Own w G h g σ) {a : Addr} {P P' : Obj → Prop} (u : Upd a P P' σ τ) (hp : ∀ o, P o → P' o) : Own w G h g τ := by
  obtain ⟨o, ho, q⟩ := O.get u.mem
  exact O.upd u (fun b o' _ e => e) ⟨o, ho, hp o q⟩

theorem Own.newGen (O : Own w G h g σ) {st : GenState} (hb : st.bare = true) : Own w G h (g.push st) (.g g.size st :: σ) where
  wf := O.wf
  keep := O.keep
  at' := fun c hc => by
    rcases List.mem_cons.mp hc with rfl | hc
    · show (g.push st)[g.size]? = some st; simp
    · have := O.at' c hc
      cases c with
      | o a Q => exact this
      | g n st' =>
        have h1 : g[n]? = some st' := this
        show (g.push st)[n]? = some st'
        obtain ⟨hl, he⟩ := Array.getElem?_eq_some_iff.mp h1
        rw [Array.getElem?_push_lt hl, he]
  low := fun a Q m => by
    rcases List.mem_cons.mp m with e | m
    · cases e
    · exact O.low a Q m
  nodup := by
    rw [List.map_cons]
    refine List.nodup_cons.mpr ⟨fun hm => ?_, O.nodup⟩
    obtain ⟨c, hc, hk⟩ := List.mem_map.mp hm
    have := O.at' c hc
    cases c with
    | o a Q =>
      have hk' : @Eq Nat (2 * a) (2 * g.size + 1) := hk
      omega
    | g n st' =>
      have h1 : g[n]? = some st' := this
      obtain ⟨hl, _⟩ := Array.getElem?_eq_some_iff.mp h1
      have hk' : @Eq Nat (2 * n + 1) (2 * g.size + 1) := hk
      omega
  bare := fun y hy => by
    rcases Array.mem_push.mp hy with hy | rfl
    · exact O.bare y hy
    · exact hb

inductive UpdG (n : Nat) (s s' : GenState) : SH → SH → Prop
  | head {r} : UpdG n s s' (.g n s :: r) (.g n s' :: r)
  | tail {c r r'} : UpdG n s s' r r' → UpdG n s s' (c :: r) (c :: r')
theorem UpdG.split {n : Nat} {s s' : GenState} : ∀ {σ τ : SH}, UpdG n s s' σ τ → ∃ pre post, σ = pre ++ .g n s :: post ∧ τ = pre ++ .g n s' :: post
  | _, _, .head => ⟨[], _, rfl, rfl⟩
  | _, _, .tail (c := c) u => let ⟨p, q, e, e'⟩ := u.split; ⟨c :: p, q, by rw [e]; rfl, by rw [e']; rfl⟩
theorem Own.setGen (O : Own w G h g σ) {n : Nat} {s s' : GenState} (u : UpdG n s s' σ τ) (hb : s'.bare = true) : Own w G h (g.setIfInBounds n s') τ := by
  have nd0 := O.nodup
  obtain ⟨pre, post, rfl, rfl⟩ := u.split
  have hl : n < g.size := (Array.getElem?_eq_some_iff.mp (O.gen (List.mem_append_right _ (.head _)))).1
  have ne : ∀ c ∈ pre ++ post, c.key ≠ 2 * n + 1 := by
    intro c hc
    have h1 := (List.perm_middle (l₁ := pre) (a := Cl.g n s) (l₂ := post)).map Cl.key
    have h2 := h1.nodup_iff.mp nd0
    rw [List.map_cons] at h2
    intro q
    exact (List.nodup_cons.mp h2).1 (by rw [show (Cl.g n s).key = c.key from q.symm]; exact List.mem_map_of_mem hc)
  have old : ∀ c ∈ pre ++ post, c.At h (g.setIfInBounds n s') := by
    intro c hc
    have h1 : c ∈ pre ++ .g n s :: post := by
      rcases List.mem_append.mp hc with q | q
      · exact List.mem_append_left _ q
      · exact List.mem_append_right _ (.tail _ q)
    have := O.at' c h1
    have k := ne c hc
    cases c with
    | o b Q => exact this
    | g m st =>
      have h2 : g[m]? = some st := this
      show (g.setIfInBounds n s')[m]? = some st
      rw [Array.getElem?_setIfInBounds_ne (fun q => k (by rw [← q]; rfl))]
      exact h2
  refine ⟨O.wf, O.keep, fun c hc => ?_, fun b Q m => ?_, ?_, fun y hy => ?_⟩
  · rcases List.mem_append.mp hc with q | q
    · exact old c (List.mem_append_left _ q)
    · rcases List.mem_cons.mp q with rfl | q
      · show (g.setIfInBounds n s')[n]? = some s'
        rw [Array.getElem?_setIfInBounds_self_of_lt hl]
      · exact old c (List.mem_append_right _ q)
  · rcases List.mem_append.mp m with q | q
    · exact O.low b Q (List.mem_append_left _ q)
    · rcases List.mem_cons.mp q with e | q
      · cases e
      · exact O.low b Q (List.mem_append_right _ (.tail _ q))
  · simpa [Cl.key] using nd0
  · rcases Array.mem_or_eq_of_mem_setIfInBounds hy with hy | rfl
    · exact O.bare y hy
    · exact hb
end own
end

-- B2
section
structure Bx where
  w : World
  G : Heap
  os : OsState

abbrev Bx.M (B : Bx) : Model := model prog B.w
def PA {α : Type} (B : Bx) (Φ : α → SH → Prop) (a : α) (s : Shared) : Prop := ∃ τ, Own B.w B.G s.heap s.gens τ ∧ s.os = B.os ∧ Φ a τ
-- the walk's word: from every state that bears σ, the tree ends in Φ or raises into Ψ
def Sw {α : Type} (B : Bx) (A : Around) (t : Sem α) (Φ : α → SH → Prop) (Ψ : Value → SH → Prop) (σ : SH) : Prop :=
  ∀ h g d k, Own B.w B.G h g σ → wpAny B.M A t (PA B Φ) (PA B Ψ) ⟨h, g, d, k, B.os⟩
def Sc (B : Bx) (A : Around) (c : Code) (R : Result → SH → Prop) (σ : SH) : Prop :=
  ∀ h g d k, Own B.w B.G h g σ → codeAny B.M A c (PA B R) ⟨h, g, d, k, B.os⟩

abbrev NoE : Value → SH → Prop := fun _ _ => False

section
variable {α β : Type} {B : Bx} {A : Around} {Ψ : Value → SH → Prop} {σ τ : SH}

theorem PA.mk {Φ : α → SH → Prop} {a : α} {h : Heap} {g : Array GenState} {d : Drawn} {k : Tok} (O : Own B.w B.G h g σ) (x : Φ a σ) : PA B Φ a ⟨h, g, d, k, B.os⟩ := ⟨σ, O, rfl, x⟩
theorem PA.mono {Φ Φ' : α → SH → Prop} {a : α} {s : Shared} (x : PA B Φ a s) (f : ∀ τ, Φ a τ → Φ' a τ) : PA B Φ' a s := let ⟨τ, O, e, q⟩ := x; ⟨τ, O, e, f τ q⟩

theorem Sw.pure {a : α} {Φ : α → SH → Prop} (x : Φ a σ) : Sw B A (Pure.pure a) Φ Ψ σ := fun _ _ _ _ O => wpAny_pure (.mk O x)
theorem Sw.throw {e : Value} {Φ : α → SH → Prop} (x : Ψ e σ) : Sw B A (MonadExcept.throw e : Sem α) Φ Ψ σ := fun _ _ _ _ O => wpAny_throw (.mk O x)
theorem Sw.mono {t : Sem α} {Φ Φ' : α → SH → Prop} {Ψ' : Value → SH → Prop} (x : Sw B A t Φ Ψ σ) (f : ∀ a τ, Φ a τ → Φ' a τ) (f' : ∀ e τ, Ψ e τ → Ψ' e τ) : Sw B A t Φ' Ψ' σ :=
  fun h g d k O => wpAny_mono (x h g d k O) (fun a _ q => q.mono (f a)) fun e _ q => q.mono (f' e)
-- go on from a state that a walk has come to
theorem PA.bind {m : α} {f : α → Sem β} {Φ : β → SH → Prop} {s : Shared} (x : PA B (fun a τ => Sw B A (f a) Φ Ψ τ) m s) : wpAny B.M A (f m) (PA B Φ) (PA B Ψ) s := by
  obtain ⟨τ, O, e, q⟩ := x
  obtain ⟨h, g, d, k, os⟩ := s
  cases e
  exact q h g d k O
theorem Sw.bind {m : Sem α} {f : α → Sem β} {Φ : β → SH → Prop} (x : Sw B A m (fun a τ => Sw B A (f a) Φ Ψ τ) Ψ σ) : Sw B A (m >>= f) Φ Ψ σ :=
  fun h g d k O => wpAny_bind (wpAny_mono (x h g d k O) (fun _ _ q => q.bind) fun _ _ q => q)
theorem Sw.sub {t : Sem α} {Φ : α → SH → Prop} (x : Sw B A t Φ Ψ τ) (hs : ∀ c ∈ τ, c ∈ σ) (hn : (σ.map Cl.key).Nodup → (τ.map Cl.key).Nodup) : Sw B A t Φ Ψ σ :=
  fun h g d k O => x h g d k (O.sub hs (hn O.nodup))
theorem Sw.perm {t : Sem α} {Φ : α → SH → Prop} (x : Sw B A t Φ Ψ τ) (hp : σ.Perm τ) : Sw B A t Φ Ψ σ := fun h g d k O => x h g d k (O.perm hp)
theorem Sw.drop {t : Sem α} {Φ : α → SH → Prop} (x : Sw B A t Φ Ψ τ) (hp : τ.Sublist σ) : Sw B A t Φ Ψ σ := fun h g d k O => x h g d k (O.sublist hp)
theorem Sw.weak {t : Sem α} {Φ : α → SH → Prop} {a : Addr} {P P' : Obj → Prop} (u : Upd a P P' σ τ) (hp : ∀ o, P o → P' o) (x : Sw B A t Φ Ψ τ) : Sw B A t Φ Ψ σ := fun h g d k O => x h g d k (O.weak u hp)
-- what is owned may be looked at
theorem Sw.look {t : Sem α} {Φ : α → SH → Prop} (x : ∀ h g, Own B.w B.G h g σ → Sw B A t Φ Ψ σ) : Sw B A t Φ Ψ σ := fun h g d k O => x h g O h g d k O
theorem Sw.eq {t t' : Sem α} {Φ : α → SH → Prop} (e : t = t') (x : Sw B A t' Φ Ψ σ) : Sw B A t Φ Ψ σ := e ▸ x
theorem Sw.holding {vs : List Value} {m : Sem α} {Φ : α → SH → Prop} (x : Sw B A m Φ Ψ σ) : Sw B A (holding vs m) Φ Ψ σ := fun h g d k O => wpAny_holding (x h g d k O)
theorem Sw.standAt {p : Pos} {Φ : Unit → SH → Prop} (x : Φ () σ) : Sw B A (standAt p) Φ Ψ σ := fun _ _ _ _ O => wpAny_standAt (.mk O x)
theorem Sw.rule {p : String} {Φ : Unit → SH → Prop} (x : Φ () σ) : Sw B A (PySem.rule p) Φ Ψ σ := fun _ _ _ _ O => wpAny_rule (.mk O x)
theorem Sw.point {Φ : Unit → SH → Prop} (x : Φ () σ) : Sw B A PySem.point Φ Ψ σ := fun _ _ _ _ O => wpAny_point (.mk O x)
theorem Sw.ite {c : Prop} [Decidable c] {a b : Sem α} {Φ : α → SH → Prop} (x : if c then Sw B A a Φ Ψ σ else Sw B A b Φ Ψ σ) : Sw B A (if c then a else b) Φ Ψ σ := by split <;> simp_all
theorem Sw.mkInt {i : Int} {Φ : Value → SH → Prop} (x : ∀ k, Φ (.int i k) σ) : Sw B A (mkInt i) Φ Ψ σ := fun _ _ _ k O => wpAny_mkInt (.mk O (x k))
theorem Sw.mkText {i : Str} {Φ : Value → SH → Prop} (x : ∀ k, Φ (.str i k) σ) : Sw B A (mkText i) Φ Ψ σ := fun _ _ _ k O => wpAny_mkText (.mk O (x k))
theorem Sw.tryCatch {m : Sem α} {f : Value → Sem α} {Φ : α → SH → Prop} (x : Sw B A m Φ (fun e τ => Sw B A (f e) Φ Ψ τ) σ) : Sw B A (MonadExcept.tryCatch m f) Φ Ψ σ :=
  fun h g d k O => wpAny_tryCatch (wpAny_mono (x h g d k O) (fun _ _ q => q) fun _ _ q => q.bind)
theorem Sw.attempt {m : Sem α} {Φ : Except Value α → SH → Prop} (x : Sw B A m (fun a => Φ (.ok a)) (fun e => Φ (.error e)) σ) : Sw B A m.attempt Φ Ψ σ :=
  fun h g d k O => wpAny_attempt (x h g d k O)
theorem Sw.onRaise {m : Sem α} {f : Value → Sem Unit} {Φ : α → SH → Prop} (x : Sw B A m Φ (fun e τ => Sw B A (f e) (fun _ => Ψ e) Ψ τ) σ) : Sw B A (m.onRaise f) Φ Ψ σ :=
  fun h g d k O => wpAny_onRaise (wpAny_mono (x h g d k O) (fun _ _ q => q) fun e s q => by
    obtain ⟨τ, O, e', q⟩ := q
    obtain ⟨h, g, d, k, os⟩ := s
    cases e'
    exact q h g d k O)
-- a library rule that changes nothing but the count of tokens
theorem Sw.still {t : Sem α} {Φ : α → SH → Prop} {a : α} (x : Φ a σ) (f : ∀ (h : Heap) (g : Array GenState) (d : Drawn) (k : Tok), Own B.w B.G h g σ → ∀ (Q : α → Shared → Prop) (E : Value → Shared → Prop), (∀ k', Q a ⟨h, g, d, k', B.os⟩) → wpAny B.M A t Q E ⟨h, g, d, k, B.os⟩) : Sw B A t Φ Ψ σ :=
  fun h g d k O => f h g d k O _ _ fun _ => .mk O x
end

-- a frame's names and what they hold
def FV (es : Array DictEntry) : List Str → List (Option Value) → Prop
  | [], [] => True
  | k :: ks, v :: vs => nsFind es k = v ∧ FV es ks vs
  | _, _ => False
def frameP (ks : List Str) (vs : List (Option Value)) (o : Obj) : Prop := ∃ es ep, o.data = .dict es ep ∧ StrKeys es ∧ FV es ks vs
inductive NAt (x : Str) (v : Value) : List Str → List (Option Value) → Prop
  | head {ks vs} : NAt x v (x :: ks) (some v :: vs)
  | tail {k ks u vs} : NAt x v ks vs → NAt x v (k :: ks) (u :: vs)
inductive NPut (x : Str) (v : Value) : List Str → List (Option Value) → List (Option Value) → Prop
  | head {ks u vs} : NPut x v (x :: ks) (u :: vs) (some v :: vs)
  | tail {k ks u vs vs'} : NPut x v ks vs vs' → NPut x v (k :: ks) (u :: vs) (u :: vs')
theorem NAt.find {x : Str} {v : Value} {es : Array DictEntry} : ∀ {ks vs}, NAt x v ks vs → FV es ks vs → nsFind es x = some v
  | _, _, .head, f => f.1
  | _, _, .tail a, f => a.find f.2
theorem NAt.mem {x : Str} {v : Value} : ∀ {ks vs}, NAt x v ks vs → x ∈ ks
  | _, _, .head => .head _
  | _, _, .tail a => .tail _ a.mem
theorem NPut.mem {x : Str} {v : Value} : ∀ {ks vs vs'}, NPut x v ks vs vs' → x ∈ ks
  | _, _, _, .head => .head _
  | _, _, _, .tail a => .tail _ a.mem
theorem FV.other {x : Str} {v : Value} {es es' : Array DictEntry} (he : ∀ y, nsFind es' y = if y = x then some v else nsFind es y) : ∀ {ks vs}, x ∉ ks → FV es ks vs → FV es' ks vs
  | [], [], _, _ => trivial
  | [], _ :: _, _, f => f.elim
  | _ :: _, [], _, f => f.elim
  | k :: ks, u :: vs, hn, f => ⟨by rw [he, if_neg (fun q : k = x => hn (q ▸ List.Mem.head _))]; exact f.1, FV.other he (fun q => hn (.tail _ q)) f.2⟩
theorem NPut.fv {x : Str} {v : Value} {es es' : Array DictEntry} (he : ∀ y, nsFind es' y = if y = x then some v else nsFind es y) : ∀ {ks vs vs'}, NPut x v ks vs vs' → ks.Nodup → FV es ks vs → FV es' ks vs'
  | _, _, _, .head, hn, f => ⟨by rw [he, if_pos rfl], FV.other he (List.nodup_cons.mp hn).1 f.2⟩
  | _, _, _, .tail (k := k) p, hn, f => ⟨by rw [he, if_neg (fun q : k = x => (List.nodup_cons.mp hn).1 (q ▸ p.mem))]; exact f.1, p.fv he (List.nodup_cons.mp hn).2 f.2⟩

-- an env whose locals are ks, its free and cell names fs, its global names not asked
structure EnvOk (env : Env) (ks fs : List Str) : Prop where
  kind : env.scope.kind = .function
  nd : ks.Nodup
  loc : ∀ x ∈ ks, env.scope.names.lookup x = some .local ∧ (x == ("__debug__" : Str)) = false
  fr : ∀ x ∈ fs, (env.scope.names.lookup x = some .free ∨ env.scope.names.lookup x = some .cell) ∧ (x == ("__debug__" : Str)) = false ∧ (x == ("__classdict__" : Str)) = false
  fnd : fs.Nodup
def cellP (v : Option Value) (o : Obj) : Prop := o.data = .cell v
inductive CAt (x : Str) (c : Addr) : List Str → List Addr → Prop
  | head {ks vs} : CAt x c (x :: ks) (c :: vs)
  | tail {k ks u vs} : CAt x c ks vs → CAt x c (k :: ks) (u :: vs)
theorem CAt.mem {x : Str} {c : Addr} : ∀ {ks vs}, CAt x c ks vs → x ∈ ks
  | _, _, .head => .head _
  | _, _, .tail a => .tail _ a.mem
theorem CAt.look {x : Str} {c : Addr} : ∀ {ks vs}, CAt x c ks vs → ks.Nodup → (ks.zip vs).lookup x = some c
  | _, _, .head, _ => by rw [List.zip_cons_cons, List.lookup_cons, beq_self_eq_true]
  | _, _, .tail (k := k) a, hn => by
    rw [List.zip_cons_cons, List.lookup_cons]
    have : (x == k) = false := by
      cases q : x == k with
      | false => rfl
      | true => exact absurd (eq_of_beq q ▸ a.mem) (List.nodup_cons.mp hn).1
    rw [this]
    exact a.look (List.nodup_cons.mp hn).2

section names
variable {B : Bx} {A : Around} {Ψ : Value → SH → Prop} {σ τ : SH} {env : Env} {ks fs : List Str} {vs vs' : List (Option Value)} {x : Str} {v : Value} {pos : Pos}

theorem Sw.ldn {Φ : Value → SH → Prop} (E : EnvOk env ks fs) (a : NAt x v ks vs) (y : Φ v (.o env.locals (frameP ks vs) :: σ)) : Sw B A (loadName env x) Φ Ψ (.o env.locals (frameP ks vs) :: σ) := fun h g d k O => by
  obtain ⟨o, ho, es, ep, hd, hk, hf⟩ := O.get (.head _)
  exact wpAny_loadName_local E.kind (E.loc x a.mem).1 ⟨o, es, ep, ho, hd, hk, fun _ => rfl⟩ (a.find hf) (.mk O y)
theorem Sw.ld {Φ : Value → SH → Prop} (E : EnvOk env ks fs) (a : NAt x v ks vs) (y : Φ v (.o env.locals (frameP ks vs) :: σ)) : Sw B A (eval (.Name x pos) env) Φ Ψ (.o env.locals (frameP ks vs) :: σ) := fun h g d k O =>
  wpAny_Name (Sw.ldn E a y h g d k O) (E.loc x a.mem).2
theorem Sw.st {Φ : Unit → SH → Prop} (E : EnvOk env ks fs) (p : NPut x v ks vs vs') (y : Φ () (.o env.locals (frameP ks vs') :: σ)) : Sw B A (storeName env x v) Φ Ψ (.o env.locals (frameP ks vs) :: σ) := fun h g d k O => by
  obtain ⟨o, ho, es, ep, hd, hk, hf⟩ := O.get (.head _)
  refine wpAny_storeName_local (E.loc x p.mem).1 ⟨o, es, ep, ho, hd, hk, fun _ => rfl⟩ (fun h' hn hs => .mk (O.same .head hs ?_) y) (by rw [E.kind]; rfl)
  obtain ⟨o', es', ep', ho', hd', hk', he⟩ := hn
  exact ⟨o', ho', es', ep', hd', hk', p.fv he E.nd hf⟩
-- a closure's name (free, or a cell of this frame)
theorem Sw.ldcn {Φ : Value → SH → Prop} {cs : List Addr} {c : Addr} (E : EnvOk env ks fs) (hc : env.cells = fs.zip cs) (a : CAt x c fs cs) (m : Cl.o c (cellP (some v)) ∈ σ) (y : Φ v σ) : Sw B A (loadName env x) Φ Ψ σ := fun h g d k O => by
  obtain ⟨o, ho, hd⟩ := O.get m
  have hl : env.cells.lookup x = some c := by rw [hc]; exact a.look E.fnd
  rcases (E.fr x a.mem).1 with q | q
  · exact wpAny_loadName_free E.kind q hl ⟨o, ho, hd⟩ (.mk O y) (E.fr x a.mem).2.2
  · exact wpAny_loadName_cell E.kind q hl ⟨o, ho, hd⟩ (.mk O y)
theorem Sw.ldc {Φ : Value → SH → Prop} {cs : List Addr} {c : Addr} (E : EnvOk env ks fs) (hc : env.cells = fs.zip cs) (a : CAt x c fs cs) (m : Cl.o c (cellP (some v)) ∈ σ) (y : Φ v σ) : Sw B A (eval (.Name x pos) env) Φ Ψ σ := fun h g d k O =>
  wpAny_Name (Sw.ldcn E hc a m y h g d k O) (E.fr x a.mem).2.1
theorem Sw.stc {Φ : Unit → SH → Prop} {cs : List Addr} {c : Addr} {u : Option Value} (E : EnvOk env ks fs) (hq : env.scope.names.lookup x = some .cell) (hc : env.cells = fs.zip cs) (a : CAt x c fs cs) (m : Upd c (cellP u) (cellP (some v)) σ τ) (y : Φ () τ) : Sw B A (storeName env x v) Φ Ψ σ := fun h g d k O => by
  obtain ⟨o, ho, hd⟩ := O.get m.mem
  have hl : env.cells.lookup x = some c := by rw [hc]; exact a.look E.fnd
  exact wpAny_storeName_cell E.kind hq hl ⟨o, ho, hd⟩ fun h' hv hs => .mk (O.same m hs hv) y
-- a global name, a builtin's name
theorem wf_glob {w : World} {G : Heap} {mg : Str → Option Value} (W : WF w G) (hg : G.Ns mainGlobals mg) (e : nsIn (KF w) mainGlobals x = some (some v)) : mg x = some v := mg_of W.K hg e
theorem Sw.ldg {Φ : Value → SH → Prop} (e : nsIn (KF B.w) mainGlobals x = some (some v)) (hk : env.scope.kind = .function) (hx : env.scope.names.lookup x = some .globalImplicit) (hgl : env.globals = mainGlobals) (hd : (x == ("__debug__" : Str)) = false) (y : Φ v σ) : Sw B A (eval (.Name x pos) env) Φ Ψ σ := fun h g d k O => by
  refine wpAny_Name ?_ hd
  obtain ⟨mg, mb, hg, hb, _⟩ := O.wf.top
  have e1 := wf_glob O.wf hg e
  have hl : env.kindOf x = some .globalImplicit := hx
  have : loadName env x = loadGlobal env x := by
    unfold loadName
    simp only [Env.blockKind, hk, hl, ScopeKind.isAnnotationScope, Bool.false_and, Bool.false_eq_true, if_false]
  rw [this]
  unfold loadGlobal
  rw [hgl]
  refine wpAny_bind (wpAny_nsGet (hg.keeps O.keep) ?_)
  rw [e1]
  exact wpAny_pure (.mk O y)
theorem Sw.ldb {Φ : Value → SH → Prop} (e : nsIn (KF B.w) mainGlobals x = some none) (hv : bootBuiltins x = some v) (hn : x ≠ "__name__") (hk : env.scope.kind = .function) (hx : env.scope.names.lookup x = some .globalImplicit) (hgl : env.globals = mainGlobals) (hbl : env.builtins = builtinsNs) (hd : (x == ("__debug__" : Str)) = false) (y : Φ v σ) : Sw B A (eval (.Name x pos) env) Φ Ψ σ := fun h g d k O => by
  refine wpAny_Name ?_ hd
  obtain ⟨mg, mb, hg, hb, hbb, _⟩ := O.wf.top
  have e1 : mg x = none := mg_none_of O.wf.K hg e
  have hl : env.kindOf x = some .globalImplicit := hx
  have : loadName env x = loadGlobal env x := by
    unfold loadName
    simp only [Env.blockKind, hk, hl, ScopeKind.isAnnotationScope, Bool.false_and, Bool.false_eq_true, if_false]
  rw [this]
  unfold loadGlobal
  rw [hgl, hbl]
  refine wpAny_bind (wpAny_nsGet (hg.keeps O.keep) ?_)
  rw [e1]
  refine wpAny_bind (wpAny_nsGet (hb.keeps O.keep) ?_)
  rw [(hbb x hn).trans hv]
  exact wpAny_pure (.mk O y)
end names
end

-- B3
section
section
variable {B : Bx} {A : Around} {Ψ : Value → SH → Prop} {σ τ : SH} {env : Env}

theorem PA.none {e : Value} {s : Shared} {P : Prop} (x : PA B NoE e s) : P := let ⟨_, _, _, q⟩ := x; q.elim
theorem Sw.noE {α : Type} {t : Sem α} {Φ : α → SH → Prop} (x : Sw B A t Φ NoE σ) : Sw B A t Φ Ψ σ := x.mono (fun _ _ q => q) fun _ _ q => q.elim

theorem Sw.execs_nil {Φ : Flow → SH → Prop} (x : Φ .next σ) : Sw B A (execs [] env) Φ Ψ σ := Sw.pure (a := Flow.next) x
theorem Sw.execs_cons {st : Stmt} {rest : List Stmt} {Φ : Flow → SH → Prop}
    (x : Sw B A (exec st env) (fun f τ => match f with | .next => Sw B A (execs rest env) Φ Ψ τ | f => Φ f τ) Ψ σ) : Sw B A (execs (st :: rest) env) Φ Ψ σ := by
  rw [PySem.execs_cons]
  refine Sw.bind (x.mono (fun f τ q => ?_) fun _ _ q => q)
  cases f <;> first | exact q | exact Sw.pure q
theorem Sw.s_Assign_Name {x : Str} {pos' pos : Pos} {value : Expr} {Φ : Flow → SH → Prop}
    (y : Sw B A (eval value env) (fun v τ => Sw B A (storeName env x v) (fun _ => Φ .next) Ψ τ) Ψ σ)
    (hs : swapsWith value (some (.Name x pos')) pos.line env = Pure.pure false := by with_unfolding_all rfl) : Sw B A (exec (.Assign [.Name x pos'] value pos) env) Φ Ψ σ := fun h g d k O =>
  wpAny_Assign_Name (wpAny_mono (y h g d k O) (fun _ _ q => q.bind) fun _ _ q => q) hs
theorem Sw.s_AugAssign_Name {x : Str} {pos' pos : Pos} {op : Operator} {value : Expr} {Φ : Flow → SH → Prop}
    (y : Sw B A (loadName env x) (fun old τ => Sw B A (eval value env) (fun v τ => Sw B A (inplaceOp op old v) (fun r τ => Sw B A (storeName env x r) (fun _ => Φ .next) Ψ τ) Ψ τ) Ψ τ) Ψ σ) :
    Sw B A (exec (.AugAssign (.Name x pos') op value pos) env) Φ Ψ σ := fun h g d k O =>
  wpAny_AugAssign_Name (wpAny_mono (y h g d k O) (fun _ _ q => wpAny_mono q.bind (fun _ _ q => wpAny_mono q.bind (fun _ _ q => q.bind) fun _ _ q => q) fun _ _ q => q) fun _ _ q => q)
theorem Sw.s_If {test : Expr} {body orelse : List Stmt} {pos : Pos} {Φ : Flow → SH → Prop}
    (y : Sw B A (isTrue test env (eval test env)) (fun b τ => if b then Sw B A (execs body env) Φ Ψ τ else Sw B A (execs orelse env) Φ Ψ τ) Ψ σ) :
    Sw B A (exec (.If test body orelse pos) env) Φ Ψ σ := by
  rw [exec_If]
  refine Sw.bind (Sw.standAt (Sw.bind (y.mono (fun b τ q => ?_) fun _ _ q => q)))
  cases b <;> exact q
theorem Sw.s_Return {e : Expr} {pos : Pos} {Φ : Flow → SH → Prop} (y : Sw B A (eval e env) (fun v => Φ (.ret v)) Ψ σ) : Sw B A (exec (.Return (some e) pos) env) Φ Ψ σ := by
  rw [exec_Return_some]
  exact Sw.bind (Sw.standAt (Sw.bind (y.mono (fun v τ q => Sw.pure q) fun _ _ q => q)))
theorem Sw.s_Return0 {pos : Pos} {Φ : Flow → SH → Prop} (y : Φ (.ret .none) σ) : Sw B A (exec (.Return none pos) env) Φ Ψ σ := by
  rw [exec_Return_none]
  exact Sw.bind (Sw.standAt (Sw.pure y))
theorem Sw.s_Pass {pos : Pos} {Φ : Flow → SH → Prop} (y : Φ .next σ) : Sw B A (exec (.Pass pos) env) Φ Ψ σ := by
  rw [exec_Pass]; exact Sw.bind (Sw.standAt (Sw.pure y))
theorem Sw.s_Expr {e : Expr} {pos : Pos} {Φ : Flow → SH → Prop} (y : Sw B A (eval e env) (fun v τ => match v with | .ref _ => False | _ => Φ .next τ) Ψ σ)
    (hi : interactive env = false := by with_unfolding_all rfl) (hs : swapsWith e none pos.line env = Pure.pure false := by with_unfolding_all rfl) : Sw B A (exec (.Expr e pos) env) Φ Ψ σ := by
  rw [exec_Expr env e pos hi hs]
  refine Sw.bind (Sw.standAt (Sw.bind (y.mono (fun v τ q => ?_) fun _ _ q => q)))
  have hv : ∀ a, v ≠ .ref a := fun a hva => by subst hva; exact q
  rw [dropValue_plain hv]
  refine Sw.pure ?_
  cases v <;> first | exact q | exact (hv _ rfl).elim

-- expressions
theorem Sw.e_Const_int {i : Int} {n : Nat} {pos : Pos} {Φ : Value → SH → Prop} (x : ∀ k, Φ (.int i k) σ) : Sw B A (eval (.Constant (.int i) n pos) env) Φ Ψ σ := Sw.mkInt x
theorem Sw.e_Const_str {i : Str} {n : Nat} {pos : Pos} {Φ : Value → SH → Prop} (x : ∀ k, Φ (.str i k) σ) : Sw B A (eval (.Constant (.str i) n pos) env) Φ Ψ σ := Sw.mkText x
theorem Sw.e_Const_none {n : Nat} {pos : Pos} {Φ : Value → SH → Prop} (x : Φ .none σ) : Sw B A (eval (.Constant .none n pos) env) Φ Ψ σ := Sw.pure x
theorem Sw.e_Const_bool {b : Bool} {n : Nat} {pos : Pos} {Φ : Value → SH → Prop} (x : Φ (.bool b) σ) : Sw B A (eval (.Constant (.bool b) n pos) env) Φ Ψ σ := Sw.pure x
theorem Sw.e_BinOp {l r : Expr} {op : Operator} {pos : Pos} {Φ : Value → SH → Prop}
    (x : Sw B A (eval l env) (fun a τ => Sw B A (eval r env) (fun b τ => Sw B A (binaryOp op a b) Φ Ψ τ) Ψ τ) Ψ σ) : Sw B A (eval (.BinOp l op r pos) env) Φ Ψ σ := fun h g d k O =>
  wpAny_BinOp (wpAny_mono (x h g d k O) (fun _ _ q => wpAny_mono q.bind (fun _ _ q => q.bind) fun _ _ q => q) fun _ _ q => q)
theorem Sw.e_Compare {l r : Expr} {op : CmpOp} {pos : Pos} {Φ : Value → SH → Prop}
    (x : Sw B A (eval l env) (fun a τ => Sw B A (eval r env) (fun b τ => Sw B A (compareOp op a b) Φ Ψ τ) Ψ τ) Ψ σ) (hm : behindInMarks op r = false := by with_unfolding_all rfl) : Sw B A (eval (.Compare l [op] [r] pos) env) Φ Ψ σ := fun h g d k O =>
  wpAny_Compare1 (wpAny_mono (x h g d k O) (fun _ _ q => wpAny_mono q.bind (fun _ _ q => q.bind) fun _ _ q => q) fun _ _ q => q) hm
theorem Sw.e_UnaryOp {op : UnaryOp} {x : Expr} {pos : Pos} {Φ : Value → SH → Prop} (y : Sw B A (eval x env) (fun a τ => Sw B A (unaryOp op a) Φ Ψ τ) Ψ σ) : Sw B A (eval (.UnaryOp op x pos) env) Φ Ψ σ := fun h g d k O =>
  wpAny_UnaryOp (wpAny_mono (y h g d k O) (fun _ _ q => q.bind) fun _ _ q => q)
theorem Sw.truthy_bool {b : Bool} {Φ : Bool → SH → Prop} (x : Φ b σ) : Sw B A (truthy (.bool b)) Φ Ψ σ := Sw.pure x

-- tests
theorem Sw.isTrue_Compare {l r : Expr} {op : CmpOp} {pos : Pos} {whole : Sem Value} {Φ : Bool → SH → Prop}
    (x : Sw B A (eval l env) (fun a τ => Sw B A (eval r env) (fun b τ => Sw B A (compareOp op a b) (fun c τ => Sw B A (truthy c) Φ Ψ τ) Ψ τ) Ψ τ) Ψ σ) (hm : behindInMarks op r = false := by with_unfolding_all rfl) : Sw B A (isTrue (.Compare l [op] [r] pos) env whole) Φ Ψ σ := fun h g d k O =>
  wpAny_isTrue_Compare1 (wpAny_mono (x h g d k O) (fun _ _ q => wpAny_mono q.bind (fun _ _ q => wpAny_mono q.bind (fun _ _ q => q.bind) fun _ _ q => q) fun _ _ q => q) fun _ _ q => q) hm
theorem Sw.isTrue_not {x : Expr} {pos : Pos} {whole : Sem Value} {Φ : Bool → SH → Prop} (y : Sw B A (isTrue x env (eval x env)) (fun b => Φ (!b)) Ψ σ) : Sw B A (isTrue (.UnaryOp .Not x pos) env whole) Φ Ψ σ := fun h g d k O =>
  wpAny_isTrue_Not (wpAny_mono (y h g d k O) (fun _ _ q => q) fun _ _ q => q)
theorem Sw.isTrue_Name {x : Str} {pos : Pos} {whole : Sem Value} {Φ : Bool → SH → Prop} (y : Sw B A whole (fun v τ => Sw B A (truthy v) Φ Ψ τ) Ψ σ) : Sw B A (isTrue (.Name x pos) env whole) Φ Ψ σ := fun h g d k O =>
  isTrue_plain (e := .Name x pos) (wpAny_mono (y h g d k O) (fun _ _ q => q.bind) fun _ _ q => q)
theorem Sw.isTrue_Call {f : Expr} {as : List Expr} {ks : List Keyword} {pos : Pos} {whole : Sem Value} {Φ : Bool → SH → Prop} (y : Sw B A whole (fun v τ => Sw B A (truthy v) Φ Ψ τ) Ψ σ) : Sw B A (isTrue (.Call f as ks pos) env whole) Φ Ψ σ := fun h g d k O =>
  isTrue_plain (e := .Call f as ks pos) (wpAny_mono (y h g d k O) (fun _ _ q => q.bind) fun _ _ q => q)
theorem Sw.isTrue_Attribute {f : Expr} {n : Str} {pos : Pos} {whole : Sem Value} {Φ : Bool → SH → Prop} (y : Sw B A whole (fun v τ => Sw B A (truthy v) Φ Ψ τ) Ψ σ) : Sw B A (isTrue (.Attribute f n pos) env whole) Φ Ψ σ := fun h g d k O =>
  isTrue_plain (e := .Attribute f n pos) (wpAny_mono (y h g d k O) (fun _ _ q => q.bind) fun _ _ q => q)
theorem Sw.isTrue_Subscript {f i : Expr} {pos : Pos} {whole : Sem Value} {Φ : Bool → SH → Prop} (y : Sw B A whole (fun v τ => Sw B A (truthy v) Φ Ψ τ) Ψ σ) : Sw B A (isTrue (.Subscript f i pos) env whole) Φ Ψ σ := fun h g d k O =>
  isTrue_plain (e := .Subscript f i pos) (wpAny_mono (y h g d k O) (fun _ _ q => q.bind) fun _ _ q => q)

-- one turn of a for (nothing raises out of it)
theorem Sc.for1 {target : Expr} {it : Value} {body orelse : List Stmt} {R : Result → SH → Prop}
    (x : Sw B A (pyNext it) (fun r τ => match r with
      | .none => Sw B A (execs orelse env) (fun f => R (.ok f)) NoE τ
      | .some v => Sw B A (letOwnedTupleGo target it v) (fun _ τ => Sw B A (assign target env v) (fun _ τ => Sw B A (execs body env) (fun f τ => match f with
          | .next | .cont => Sc B A (.forLoop target it body orelse env) R τ
          | .brk => R (.ok .next) τ
          | .ret v => R (.ok (.ret v)) τ) NoE τ) NoE τ) NoE τ) NoE σ) : Sc B A (.forLoop target it body orelse env) R σ := fun h g d k O => by
  refine codeAny_of_tree ?_
  rw [Around.under_of_weight (c := .forLoop target it body orelse env) rfl rfl]
  show wpAny B.M A ((forTurn target it body orelse env).onRaise (fun x => do noteFrame x env; theTreesLotGoes x)) _ _ _
  refine wpAny_onRaise ?_
  simp only [forTurn]
  refine wpAny_bind (wpAny_standAt (wpAny_bind (wpAny_onRaise (wpAny_mono (x h g d k O) (fun r s₁ h₁ => ?_) fun _ _ q => q.none))))
  obtain ⟨τ, O, e, q⟩ := h₁
  obtain ⟨h, g, d, k, os⟩ := s₁
  cases e
  cases r with
  | none =>
    refine wpAny_pure ⟨rfl, codeAny_block (wpAny_mono (q h g d k O) (fun _ _ q => q) fun _ _ q => q.none)⟩
  | some v =>
    refine wpAny_bind (wpAny_mono (q h g d k O) (fun _ s₂ q => wpAny_bind (wpAny_mono q.bind (fun _ s₃ q => wpAny_bind (wpAny_mono q.bind (fun f s₄ q => ?_) fun _ _ q => q.none)) fun _ _ q => q.none)) fun _ _ q => q.none)
    obtain ⟨τ, O, e, q⟩ := q
    obtain ⟨h, g, d, k, os⟩ := s₄
    cases e
    cases f with
    | next => exact wpAny_pure ⟨rfl, q h g d k O⟩
    | cont => exact wpAny_pure ⟨rfl, q h g d k O⟩
    | brk => exact wpAny_pure (.mk O q)
    | ret v => exact wpAny_pure (.mk O q)
theorem Sw.s_For {target iter : Expr} {body orelse : List Stmt} {pos : Pos} {Φ : Flow → SH → Prop}
    (x : Sw B A (eval iter env) (fun x τ => Sw B A (pyIter x) (fun it τ => Sc B A (.forLoop target it body orelse env) (fun r τ => match r with | .ok f => Φ f τ | .error _ => False) τ) Ψ τ) Ψ σ)
    (hs : ∀ x, foldedSetIterable iter env x = Pure.pure x := by intro _; with_unfolding_all rfl) : Sw B A (exec (.For target iter body orelse pos) env) Φ Ψ σ := fun h g d k O =>
  wpAny_For (wpAny_mono (x h g d k O) (fun _ _ q => wpAny_mono q.bind (fun it s q => by
    obtain ⟨τ, O, e, q⟩ := q
    obtain ⟨h, g, d, k, os⟩ := s
    cases e
    refine codeAny_mono (q h g d k O) fun r s q => ?_
    cases r with
    | ok f => exact q
    | error e => obtain ⟨_, _, _, q⟩ := q; exact q.elim) fun _ _ q => q) fun _ _ q => q) hs
theorem Sw.assign_Name {x : Str} {pos : Pos} {v : Value} {Φ : Unit → SH → Prop} (y : Sw B A (storeName env x v) Φ Ψ σ) : Sw B A (assign (.Name x pos) env v) Φ Ψ σ := fun h g d k O => wpAny_assign_Name (y h g d k O)
-- one turn of a while
theorem Sc.while1 {test : Expr} {body orelse : List Stmt} {R : Result → SH → Prop}
    (x : Sw B A (isTrue test env (eval test env)) (fun b τ => if b then Sw B A (execs body env) (fun f τ => match f with
          | .next | .cont => Sc B A (.whileLoop test body orelse env) R τ
          | .brk => R (.ok .next) τ
          | .ret v => R (.ok (.ret v)) τ) NoE τ else Sw B A (execs orelse env) (fun f => R (.ok f)) NoE τ) NoE σ) : Sc B A (.whileLoop test body orelse env) R σ := fun h g d k O => by
  refine codeAny_of_tree ?_
  rw [Around.under_of_weight (c := .whileLoop test body orelse env) rfl rfl]
  show wpAny B.M A ((PySem.whileTurn test body orelse env).onRaise (fun x => do noteFrame x env; theTreesLotGoes x)) _ _ _
  refine wpAny_onRaise ?_
  simp only [PySem.whileTurn]
  refine wpAny_bind (wpAny_mono (x h g d k O) (fun b s₁ h₁ => ?_) fun _ _ q => q.none)
  obtain ⟨τ, O, e, q⟩ := h₁
  obtain ⟨h, g, d, k, os⟩ := s₁
  cases e
  cases b with
  | false =>
    simp only [Bool.false_eq_true, if_false] at q ⊢
    exact wpAny_bind (wpAny_mono (q h g d k O) (fun f s q => wpAny_pure q) fun _ _ q => q.none)
  | true =>
    simp only [if_true] at q ⊢
    refine wpAny_bind (wpAny_mono (q h g d k O) (fun f s q => ?_) fun _ _ q => q.none)
    obtain ⟨τ, O, e, q⟩ := q
    obtain ⟨h, g, d, k, os⟩ := s
    cases e
    cases f with
    | next => exact wpAny_pure ⟨rfl, q h g d k O⟩
    | cont => exact wpAny_pure ⟨rfl, q h g d k O⟩
    | brk => exact wpAny_pure (.mk O q)
    | ret v => exact wpAny_pure (.mk O q)
theorem Sw.s_While {test : Expr} {body orelse : List Stmt} {pos : Pos} {Φ : Flow → SH → Prop}
    (x : Sc B A (.whileLoop test body orelse env) (fun r τ => match r with | .ok f => Φ f τ | .error _ => False) σ) : Sw B A (exec (.While test body orelse pos) env) Φ Ψ σ := fun h g d k O =>
  wpAny_While (codeAny_mono (x h g d k O) fun r s q => by
    cases r with
    | ok f => exact q
    | error e => obtain ⟨_, _, _, q⟩ := q; exact q.elim)

theorem Sc.forJ {target : Expr} {it : Value} {body orelse : List Stmt} {R : Result → SH → Prop} (J : Nat → SH → Prop)
    (turn : ∀ n τ, J n τ → Sw B A (pyNext it) (fun r τ => match r with
      | .none => Sw B A (execs orelse env) (fun f => R (.ok f)) NoE τ
      | .some v => Sw B A (letOwnedTupleGo target it v) (fun _ τ => Sw B A (assign target env v) (fun _ τ => Sw B A (execs body env) (fun f τ => match f with
          | .next | .cont => ∃ m, m < n ∧ J m τ
          | .brk => R (.ok .next) τ
          | .ret v => R (.ok (.ret v)) τ) NoE τ) NoE τ) NoE τ) NoE τ) {n : Nat} (h : J n σ) : Sc B A (.forLoop target it body orelse env) R σ := by
  induction n using Nat.strongRecOn generalizing σ with
  | ind n ih =>
    refine Sc.for1 ((turn n σ h).mono (fun r τ q => ?_) fun _ _ q => q)
    cases r with
    | none => exact q
    | some v =>
      refine q.mono (fun _ τ q => q.mono (fun _ τ q => q.mono (fun f τ q => ?_) fun _ _ q => q) fun _ _ q => q) fun _ _ q => q
      cases f with
      | next => obtain ⟨m, hm, q⟩ := q; exact ih m hm q
      | cont => obtain ⟨m, hm, q⟩ := q; exact ih m hm q
      | brk => exact q
      | ret v => exact q
theorem Sc.whileJ {test : Expr} {body orelse : List Stmt} {R : Result → SH → Prop} (J : Nat → SH → Prop)
    (turn : ∀ n τ, J n τ → Sw B A (isTrue test env (eval test env)) (fun b τ => if b then Sw B A (execs body env) (fun f τ => match f with
          | .next | .cont => ∃ m, m < n ∧ J m τ
          | .brk => R (.ok .next) τ
          | .ret v => R (.ok (.ret v)) τ) NoE τ else Sw B A (execs orelse env) (fun f => R (.ok f)) NoE τ) NoE τ) {n : Nat} (h : J n σ) : Sc B A (.whileLoop test body orelse env) R σ := by
  induction n using Nat.strongRecOn generalizing σ with
  | ind n ih =>
    refine Sc.while1 ((turn n σ h).mono (fun b τ q => ?_) fun _ _ q => q)
    cases b with
    | false => exact q
    | true =>
      simp only [if_true] at q ⊢
      refine q.mono (fun f τ q => ?_) fun _ _ q => q
      cases f with
      | next => obtain ⟨m, hm, q⟩ := q; exact ih m hm q
      | cont => obtain ⟨m, hm, q⟩ := q; exact ih m hm q
      | brk => exact q
      | ret v => exact q
end
end

-- B4
section
-- a stretch of a generator's run: from σ to its next yield or its end
def Sg (B : Bx) (A : Around) (c : Code) (fs : List Frame) (t : Sem Fin) (P : End → SH → Prop) (σ : SH) : Prop :=
  ∀ h g d k, Own B.w B.G h g σ → SegX B.M A c t fs ⟨h, g, d, k, B.os⟩ (PA B P)

section
variable {B : Bx} {A : Around} {σ τ : SH} {env : Env} {c : Code} {fs : List Frame} {P : End → SH → Prop} {K : Flow → Sem Fin} {H : Value → Sem Fin}

theorem Sg.mono {t : Sem Fin} {P' : End → SH → Prop} (x : Sg B A c fs t P σ) (f : ∀ e τ, P e τ → P' e τ) : Sg B A c fs t P' σ :=
  fun h g d k O => (x h g d k O).mono fun e _ q => q.mono (f e)
theorem Sg.perm {t : Sem Fin} (x : Sg B A c fs t P τ) (hp : σ.Perm τ) : Sg B A c fs t P σ := fun h g d k O => x h g d k (O.perm hp)
theorem Sg.drop {t : Sem Fin} (x : Sg B A c fs t P τ) (hp : τ.Sublist σ) : Sg B A c fs t P σ := fun h g d k O => x h g d k (O.sublist hp)
theorem Sg.wrap {α : Type} {m : Sem α} {K : α → Sem Fin} {H : Value → Sem Fin} {gd : Bool → Bool} {lv : List Value → List Value}
    (x : Sw B (A.over c fs) m (fun a τ => Sg B A c fs (K a) P τ) (fun e τ => Sg B A c fs (H e) P τ) σ) : Sg B A c fs (m.wrap K H gd lv) P σ := fun h g d k O => by
  rintro Γ p rfl hΓ
  have go : ∀ {t : Sem Fin} {p' : Pos} {s' : Shared} {τ : SH}, Own B.w B.G s'.heap s'.gens τ → s'.os = B.os → Sg B A Γ.code fs t P τ → ∃ e s'', Runs B.M Γ p' t fs s' e s'' ∧ e.quiet = true ∧ PA B P e s'' := by
    intro t p' s' τ O e q
    obtain ⟨h, g, d, k, os⟩ := s'
    cases e
    exact q h g d k O Γ p' rfl hΓ
  obtain ⟨e, s', hr, hq⟩ := runs_wrap_of_wp (Φ := fun e s' => e.quiet = true ∧ PA B P e s') K H gd lv m (x h g d k O (Γ.over fs) p (hΓ.over fs))
    (fun a p' s' ⟨_, O, e, q⟩ => go O e q) (fun x p' s' ⟨_, O, e, q⟩ => go O e q)
  exact ⟨e, s', hr, hq.1, hq.2⟩
theorem Sg.call {c' : Code} {hd : Option Value} {g : Bool} {l : List Value} {k : Result → Sem Fin} (x : ∀ p, Sg B A c' (.ret k hd g l c p [] :: fs) (denote table c') P σ) : Sg B A c fs (.call c' hd g l k) P σ :=
  fun h gs d n O => s_call prog B.w A c fs (PA B P) _ c' hd g l k fun p => x p h gs d n O
theorem Sg.again {c' : Code} (hq : c'.quiet = true) (x : Sg B A c' fs (denote table c') P σ) : Sg B A c fs (.pure (.again c')) P σ :=
  fun h gs d n O => s_again prog B.w A c fs (PA B P) _ c' hq (x h gs d n O)
theorem Sg.pop {r : Result} {k : Result → Sem Fin} {hd : Option Value} {g : Bool} {l : List Value} {c₁ : Code} {p₁ : Pos} {kp : List Value} (x : Sg B A c₁ fs (k r) P σ) : Sg B A c (.ret k hd g l c₁ p₁ kp :: fs) (leafOf r) P σ :=
  fun h gs d n O => s_pop prog B.w A c fs (PA B P) _ r _ rfl k hd g l c₁ p₁ kp (x h gs d n O)
theorem Sg.end_ {r : Result} (x : P (.ret r) σ) : Sg B A c [] (leafOf r) P σ :=
  fun h gs d n O => s_end prog B.w A c (PA B P) _ r _ rfl (.mk O x)
theorem Sg.at_ {p : Pos} {k : Unit → Sem Fin} (x : Sg B A c fs (k ()) P σ) : Sg B A c fs (.at p k) P σ :=
  fun h gs d n O => s_skim prog B.w A c fs (PA B P) _ _ 1 (x h gs d n O)
theorem Sg.point_ {p : List Value} {k : Unit → Sem Fin} (x : Sg B A c fs (k ()) P σ) : Sg B A c fs (.point p k) P σ :=
  fun h gs d n O => s_skim prog B.w A c fs (PA B P) _ _ 1 (x h gs d n O)
theorem Sg.yield_ {v : Value} {l : List Value} {k : Resume → Sem Fin} (hfs : splitAtGen fs = none) (hfg : fs.any Frame.guarded = false) (x : ∀ p, P (.susp v false l k c p fs) σ) : Sg B A c fs (.yield v false l k) P σ :=
  fun h gs d n O => s_yield prog B.w A c fs (PA B P) _ v l k hfs hfg fun p => .mk O (x p)
theorem Sg.eq {t t' : Sem Fin} (e : t = t') (x : Sg B A c fs t' P σ) : Sg B A c fs t P σ := e ▸ x

-- statements of a generator's body
theorem Sg.nil (x : Sg B A c fs (K .next) P σ) : Sg B A c fs ((execs [] env).wrap K H id id) P σ := x
theorem Sg.cons {st : Stmt} {rest : List Stmt}
    (x : Sg B A c fs ((exec st env).wrap (fun f => match f with | .next => (execs rest env).wrap K H id id | f => K f) H id id) P σ) : Sg B A c fs ((execs (st :: rest) env).wrap K H id id) P σ := by
  rw [execs_cons_wrap]; exact x
theorem Sg.stm {st : Stmt} (x : Sw B (A.over c fs) (exec st env) (fun f τ => Sg B A c fs (K f) P τ) (fun e τ => Sg B A c fs (H e) P τ) σ) : Sg B A c fs ((exec st env).wrap K H id id) P σ := Sg.wrap x
theorem Sg.If {test : Expr} {body orelse : List Stmt} {pos : Pos}
    (x : Sw B (A.over c fs) (isTrue test env (eval test env)) (fun b τ => if b then Sg B A c fs ((execs body env).wrap K H id id) P τ else Sg B A c fs ((execs orelse env).wrap K H id id) P τ) (fun e τ => Sg B A c fs (H e) P τ) σ) :
    Sg B A c fs ((exec (.If test body orelse pos) env).wrap K H id id) P σ := by
  rw [exec_If]
  show Sg B A c fs (.at pos fun _ => ((isTrue test env (eval test env) >>= fun b => if b then execs body env else execs orelse env)).wrap K H id id) P σ
  refine Sg.at_ ?_
  rw [Sem.bind_eq_wrap', Sem.wrap_wrap]
  refine Sg.wrap (x.mono (fun b τ q => ?_) fun _ _ q => q)
  cases b <;> exact q

-- a yield that stands as a statement
theorem Sg.Yield {e : Expr} {ypos pos : Pos} (hfs : splitAtGen fs = none) (hfg : fs.any Frame.guarded = false)
    (x : Sw B (A.over c fs) (eval e env) (fun v τ => ∀ kk p, (∀ A' P' τ', Sg B A' c fs (K .next) P' τ' → Sg B A' c fs (kk (.send .none)) P' τ') → P (.susp v false [] kk c p fs) τ) (fun e τ => Sg B A c fs (H e) P τ) σ)
    (hco : env.scope.isCoroutine = false := by with_unfolding_all rfl) (hi : interactive env = false := by with_unfolding_all rfl) :
    Sg B A c fs ((exec (.Expr (.Yield (some e) ypos) pos) env).wrap K H id id) P σ := by
  rw [exec_Expr env _ pos hi rfl]
  show Sg B A c fs (.at pos fun _ => ((eval e env >>= fun v => (standAt ypos >>= fun _ => yieldOut env v)) >>= fun x =>
    dropValue (.Yield (some e) ypos) pos x).wrap K H id id) P σ
  have hy : ∀ v, yieldOut env v = yieldValue v := fun v => by simp only [yieldOut, hco, Bool.false_eq_true, if_false]
  simp only [hy]
  refine Sg.at_ ?_
  rw [Sem.bind_eq_wrap', Sem.bind_eq_wrap', Sem.wrap_wrap, Sem.wrap_wrap]
  refine Sg.wrap (x.mono (fun v τ q => ?_) fun _ _ q => q)
  exact Sg.at_ (Sg.yield_ hfs hfg fun p => q _ p fun A' P' τ' z => z)

-- a for whose body yields
def forK (env : Env) (K : Flow → Sem Fin) (H : Value → Sem Fin) (r : Result) : Sem Fin :=
  ((match r with | .ok f => (.pure f : Sem Flow) | .error e => .raise e).onRaise fun (x : Value) => do
        if (← field x 1) == Value.none then unsupported "frame.own-activation:exception-without-traceback"
        setFlight x env.frame).wrap K H id id
def forF (env : Env) (K : Flow → Sem Fin) (H : Value → Sem Fin) (c : Code) (p : Pos) : Frame := .ret (forK env K H) none false [] c p []
def forB (target : Expr) (it : Value) (body orelse : List Stmt) (env : Env) (f : Flow) : Sem Fin := match f with
  | .next | .cont => .pure (.again (.forLoop target it body orelse env))
  | .brk => .pure (.done .next)
  | .ret v => .pure (.done (.ret v))
def forE (env : Env) (e : Value) : Sem Fin := (do noteFrame e env; theTreesLotGoes e : Sem Unit).wrap (fun _ => .raise e) .raise id id

theorem Sg.For {target iter : Expr} {body orelse : List Stmt} {pos : Pos}
    (x : Sw B (A.over c fs) (eval iter env) (fun x τ => Sw B (A.over c fs) (pyIter x) (fun it τ => ∀ p, Sg B A (.forLoop target it body orelse env) (forF env K H c p :: fs) (denote table (.forLoop target it body orelse env)) P τ) (fun e τ => Sg B A c fs (H e) P τ) τ) (fun e τ => Sg B A c fs (H e) P τ) σ)
    (hs : ∀ x, foldedSetIterable iter env x = Pure.pure x := by intro _; with_unfolding_all rfl) :
    Sg B A c fs ((exec (.For target iter body orelse pos) env).wrap K H id id) P σ := by
  rw [exec_For]
  show Sg B A c fs (.at pos fun _ => ((eval iter env >>= fun x0 => foldedSetIterable iter env x0 >>= fun x => standAt iter.pos >>= fun _ => holding [x] (pyIter x) >>= fun it => runOwn (.forLoop target it body orelse env) env)).wrap K H id id) P σ
  refine Sg.at_ ?_
  rw [Sem.bind_eq_wrap', Sem.wrap_wrap]
  refine Sg.wrap (x.mono (fun v τ q => ?_) fun _ _ q => q)
  simp only [hs]
  show Sg B A c fs (.at iter.pos fun _ => (holding [v] (pyIter v) >>= fun it => runOwn (.forLoop target it body orelse env) env).wrap K H id id) P τ
  refine Sg.at_ ?_
  rw [Sem.bind_eq_wrap', Sem.wrap_wrap]
  refine Sg.wrap ((Sw.holding q).mono (fun it τ q => ?_) fun _ _ q => q)
  exact Sg.call fun p => q p

theorem over_for {target : Expr} {it : Value} {body orelse : List Stmt} {p : Pos} (A : Around) : A.over (.forLoop target it body orelse env) (forF env K H c p :: fs) = A.over c fs := by
  simp only [Around.over, forF]
  have h1 : marksOver (Frame.ret (forK env K H) none false [] c p [] :: fs) (A.handled, A.handled) = marksOver fs (A.handled, A.handled) := by
    simp [marksOver, Frame.marks, markOver]
  have hw : (Code.forLoop target it body orelse env).weight = 0 := rfl
  have hu : (Code.forLoop target it body orelse env).cUnits = 0 := rfl
  have he : (Code.forLoop target it body orelse env).envs = [] := rfl
  have hg : (Code.forLoop target it body orelse env).guards = [] := rfl
  rw [h1, hw, hu, he, hg]
  simp only [List.map_cons, Frame.where_, frameCount_cons, envsOf_cons, guardsOf_cons]
  have e1 : ∀ l l' : List Env, ∀ x, pushEnvs (l ++ l') x = pushEnvs l (pushEnvs l' x) := by
    intro l l' x
    simp only [pushEnvs_eq]
    cases x <;> simp
  have e2 : ∀ l l' : List Code, ∀ x, pushGuards (l ++ l') x = pushGuards l (pushGuards l' x) := by
    intro l l' x
    simp only [pushGuards_eq]
    cases x <;> simp
  rw [e1, e2]
  have e3 : ∀ x, pushEnvs [] x = x := fun x => rfl
  have e4 : ∀ x, pushGuards [] x = x := fun x => rfl
  rw [e3, e4]
  congr 1
  · omega
  · rw [unitsOf_cons]; omega
theorem over_func {body : List Stmt} (A : Around) : A.over (.func body env) [] = A.deeper env := by
  obtain ⟨a, b, fr, gd, u⟩ := A
  simp only [Around.over, Around.deeper]
  have hw : (Code.func body env).weight = 1 := rfl
  have hu : (Code.func body env).cUnits = 3 := rfl
  have he : (Code.func body env).envs = [env] := rfl
  have hg : (Code.func body env).guards = [] := rfl
  rw [hw, hu, he, hg]
  show Around.mk _ _ _ _ _ = _
  congr 1

-- one turn of it
theorem Sg.for1 {target : Expr} {it : Value} {body : List Stmt} {p : Pos}
    (x : Sw B (A.over c fs) (pyNext it) (fun r τ => match r with
      | .none => Sg B A c fs (K .next) P τ
      | .some v => Sw B (A.over c fs) (letOwnedTupleGo target it v) (fun _ τ => Sw B (A.over c fs) (assign target env v) (fun _ τ =>
          Sg B A (.forLoop target it body [] env) (forF env K H c p :: fs) ((execs body env).wrap (forB target it body [] env) (forE env) id id) P τ) NoE τ) NoE τ)
      (fun e τ => Sg B A (.forLoop target it body [] env) (forF env K H c p :: fs) (forE env e) P τ) σ) :
    Sg B A (.forLoop target it body [] env) (forF env K H c p :: fs) (denote table (.forLoop target it body [] env)) P σ := by
  show Sg B A _ _ ((forTurn target it body [] env).onRaise (fun x => do noteFrame x env; theTreesLotGoes x)) P σ
  unfold forTurn
  rw [Sem.onRaise_eq_wrap, Sem.bind_eq_wrap', Sem.wrap_wrap]
  have ov := over_for (env := env) (K := K) (H := H) (c := c) (fs := fs) (target := target) (it := it) (body := body) (orelse := []) (p := p) A
  refine Sg.wrap (Sw.standAt ?_)
  rw [Sem.bind_eq_wrap', Sem.wrap_wrap]
  refine Sg.wrap ?_
  rw [ov]
  have herr : ∀ e : Value, (((do noteFrame e env; theTreesLotGoes e : Sem Unit).bind fun _ => .raise e) : Sem Fin) = forE env e := fun e => by unfold forE; rw [Sem.bind_eq_wrap]
  refine Sw.onRaise (x.mono (fun r τ q => ?_) fun e τ q => Sw.standAt (by
    show Sg B A _ _ (((do noteFrame e env; theTreesLotGoes e : Sem Unit).bind fun _ => .raise e)) P τ
    rw [herr]; exact q))
  cases r with
  | none =>
    refine Sg.again rfl ?_
    show Sg B A _ _ (((execs [] env).onRaise (fun x => do noteFrame x env; theTreesLotGoes x)) >>= fun f => Pure.pure (Fin.done f)) P τ
    exact Sg.pop (r := .ok .next) q
  | some v =>
    show Sg B A _ _ ((letOwnedTupleGo target it v >>= fun _ => assign target env v >>= fun _ => execs body env >>= fun f => (match f with | .next | .cont => PySem.again (.forLoop target it body [] env) | .brk => Pure.pure (.done .next) | .ret v => Pure.pure (.done (.ret v)) : Sem Fin)).wrap _ _ _ _) P τ
    rw [Sem.bind_eq_wrap', Sem.wrap_wrap]
    refine Sg.wrap ?_
    rw [ov]
    refine q.mono (fun _ τ q => ?_) fun _ _ q => q.elim
    rw [Sem.bind_eq_wrap', Sem.wrap_wrap]
    refine Sg.wrap ?_
    rw [ov]
    refine q.mono (fun _ τ q => ?_) fun _ _ q => q.elim
    rw [Sem.bind_eq_wrap', Sem.wrap_wrap]
    exact Sg.eq (Sem.wrap_congr (execs body env) _ _ (K' := forB target it body [] env) (H' := forE env) (fun f => by cases f <;> rfl) (fun e => herr e)) q

-- a generator's body from its start
def funK (f : Flow) : Sem Fin := .pure (.done (.ret (match f with | .ret v => v | _ => .none)))
def funE (env : Env) (e : Value) : Sem Fin := (leaving env e).wrap (fun _ => .raise e) .raise id id
theorem Sg.func {body : List Stmt} (x : Sg B A (.func body env) fs ((execs body env).wrap funK (funE env) id id) P σ) : Sg B A (.func body env) fs (denote table (.func body env)) P σ := by
  show Sg B A _ _ (.point [] fun _ => ((execs body env).onRaise (leaving env)) >>= _) P σ
  refine Sg.point_ ?_
  rw [Sem.onRaise_eq_wrap, Sem.bind_eq_wrap', Sem.wrap_wrap]
  rw [Sem.wrap_congr (execs body env) _ _ (K' := funK)
    (H' := funE env) (fun f => by cases f <;> rfl)
    (fun e => by unfold funE; rw [Sem.bind_eq_wrap, Sem.wrap_wrap]; rfl)]
  exact x

-- waking a generator from a tree
theorem Sw.wake {α : Type} {Φ : α → SH → Prop} {Ψ : Value → SH → Prop} {n : Nat} {gs : GenState} {l : List Value} {k : GenResult → Sem α} {c₀ : Code} {t₀ : Sem Fin} {fs₀ : List Frame}
    (hgs : (gs = .fresh c₀ ∧ t₀ = denote table c₀ ∧ fs₀ = []) ∨ (∃ k₀ l₀ p₀ cl, gs = .suspended k₀ l₀ c₀ p₀ fs₀ cl ∧ t₀ = k₀ (.send .none)))
    (u : UpdG n gs .running σ τ)
    (x : Sg B A c₀ fs₀ t₀ (fun e τ => e.quiet = true → ∃ τ', UpdG n .running e.genState τ τ' ∧ Sw B A (k e.result) Φ Ψ τ') τ) :
    Sw B A (.resume n (.send .none) l k) Φ Ψ σ := fun h g d tk O => by
  have hg : (⟨h, g, d, tk, B.os⟩ : Shared).gens[n]? = some gs := O.gen (by obtain ⟨p, q, rfl, _⟩ := u.split; exact List.mem_append_right _ (.head _))
  intro Γ p hΓ
  refine wake_any α prog B.w (A := A) (Q := PA B Φ) (E := PA B Ψ) hg (c₀ := c₀) (t₀ := t₀) (fs₀ := fs₀) ?_ (fun Γ => Γ.In A) (fun _ h => h) ?_ Γ p hΓ
  · rcases hgs with ⟨a, b, e⟩ | ⟨k₀, l₀, p₀, cl, a, b⟩
    · exact .inl ⟨a, rfl, b, e⟩
    · exact .inr ⟨k₀, l₀, p₀, cl, a, b⟩
  · have O' := O.setGen u (s' := .running) rfl
    have z := x h (g.setIfInBounds n .running) d tk O'
    intro Γ p hc hW
    obtain ⟨e, s', hr, hq, hp⟩ := z Γ p hc hW
    refine ⟨e, s', hr, hq, ?_⟩
    obtain ⟨τ₁, O₁, eo, hk⟩ := hp
    obtain ⟨τ₂, u₂, sw⟩ := hk hq
    have O₂ := O₁.setGen u₂ (End.bare_of_quiet hq)
    obtain ⟨h1, g1, d1, t1, os1⟩ := s'
    cases eo
    intro Γ' p' hΓ'
    exact sw h1 _ d1 t1 O₂ Γ' p' hΓ'
end
end

-- B5
section
inductive IV : List Str → List Value → List Str → List (Option Value) → Prop
  | nil : IV [] [] [] []
  | rest {k ks vs} : IV [] [] ks vs → IV [] [] (k :: ks) (none :: vs)
  | arg {p ps a as ks vs} : IV ps as ks vs → IV (p :: ps) (a :: as) (p :: ks) (some a :: vs)
theorem IV.sub : ∀ {ps as ks vs}, IV ps as ks vs → ∀ x ∈ ps, x ∈ ks
  | _, _, _, _, .nil, x, h => h
  | _, _, _, _, .rest i, x, h => nomatch h
  | _, _, _, _, .arg i, x, h => by
    rcases List.mem_cons.mp h with rfl | h
    · exact .head _
    · exact .tail _ (i.sub x h)
theorem zip_fst {ps : List Str} {as : List Value} {x : Str × Value} (h : x ∈ ps.zip as) : x.1 ∈ ps := (List.of_mem_zip (a := x.1) (b := x.2) h).1
theorem look_none {l : List (Str × Value)} {x : Str} (h : ∀ y ∈ l, y.1 ≠ x) : l.lookup x = none := by
  induction l with
  | nil => rfl
  | cons y l ih =>
    obtain ⟨k, v⟩ := y
    rw [List.lookup_cons]
    have : (x == k) = false := by
      cases q : x == k with
      | false => rfl
      | true => exact absurd (eq_of_beq q).symm (h (k, v) (.head _))
    rw [this]
    exact ih fun z hz => h z (.tail _ hz)
theorem IV.fv {es : Array DictEntry} : ∀ {ps as ks vs}, IV ps as ks vs → ks.Nodup → (∀ k ∈ ks, nsFind es k = (ps.zip as).reverse.lookup k) → FV es ks vs
  | _, _, _, _, .nil, _, _ => trivial
  | _, _, _, _, .rest i, hn, h => ⟨h _ (.head _), i.fv (List.nodup_cons.mp hn).2 fun k hk => h k (.tail _ hk)⟩
  | _, _, _, _, .arg (p := p) (ps := ps) (a := a) (as := as) i, hn, h => by
    have hp := (List.nodup_cons.mp hn).1
    refine ⟨?_, i.fv (List.nodup_cons.mp hn).2 fun k hk => ?_⟩
    · rw [h p (.head _), List.zip_cons_cons, List.reverse_cons, List.lookup_append, look_none (x := p)]
      · simp
      · intro y hy q
        exact hp (i.sub p (q ▸ zip_fst (List.mem_reverse.mp hy)))
    · rw [h k (.tail _ hk), List.zip_cons_cons, List.reverse_cons, List.lookup_append]
      have : ([(p, a)] : List (Str × Value)).lookup k = none := look_none fun y hy q => by
        rcases List.mem_singleton.mp hy with rfl
        exact hp (by rw [show p = k from q]; exact hk)
      rw [this, Option.or_none]

def genP (n : Nat) (o : Obj) : Prop := ∃ nm qn, o = { cls := .type "generator", data := .fields #[.int n 0, nm, qn] }
def retV (f : Flow) : Value := match f with | .ret v => v | _ => .none
-- a callee's end: what is no more wanted is dropped
def Back (Φ : Value → SH → Prop) (f : Flow) (τ : SH) : Prop := ∃ τ', τ'.Sublist τ ∧ Φ (retV f) τ'
abbrev envF (fd : FuncData) (L a : Addr) : Env :=
  { scope := fd.scope, locals := L, globals := fd.globals, cells := fd.closure, qual := fd.qualname ++ ".<locals>.", func := some a, code := fd.code, frame := some L, builtins := fd.builtins }

-- what is asked of a def before it is called
structure FnOk (fd : FuncData) (body : List Stmt) (ps ks : List Str) (gen : Bool) : Prop where
  co : fd.scope.isCoroutine = false
  gen : fd.scope.isGenerator = gen
  body : fd.body = .stmts body
  kind : fd.scope.kind = .function
  cell : ∀ x ∈ fd.scope.names, x.2 ≠ .cell
  nd : ks.Nodup
  loc : ∀ x ∈ ks, fd.scope.names.lookup x = some .local
  bind : ∀ as : List Value, as.length = ps.length → bindArgs fd ⟨as, []⟩ = Pure.pure (ps.zip as)

structure Roomy (A : Around) (n : Nat) : Prop where
  depth : A.depth + n ≤ 600
  units : A.units + 20 * n ≤ 8000
theorem Roomy.lt {A : Around} {n : Nat} (x : Roomy A n) : A.depth < recursionLimit := Nat.lt_of_le_of_lt (Nat.le_trans (Nat.le_add_right _ _) x.depth) (by decide)
def FnHere (B : Bx) (a : Addr) (fd : FuncData) (σ : SH) : Prop := ∀ h g, Own B.w B.G h g σ → (∃ o, h.get? a = some o ∧ o.data = .func fd) ∧ h.CodeRec fd.code fd.qualname

section
variable {B : Bx} {A : Around} {Ψ : Value → SH → Prop} {σ τ : SH} {env : Env}

theorem Own.noLimit {w : World} {G h : Heap} {g : Array GenState} (O : Own w G h g σ) : h.NoLimit := O.wf.nolimit.keeps O.keep

theorem newEnv_own {fd : FuncData} {body : List Stmt} {ps ks : List Str} {gen : Bool} {as : List Value} {vs : List (Option Value)} {a : Addr} (F : FnOk fd body ps ks gen) (hl : as.length = ps.length) (iv : IV ps as ks vs)
    {Q : Env → Shared → Prop} {E : Value → Shared → Prop} {h : Heap} {g : Array GenState} {d : Drawn} {k : Tok} (O : Own B.w B.G h g σ)
    (hQ : ∀ h' k', Own B.w B.G h' g (.o h.objs.size (frameP ks vs) :: σ) → Q (envF fd h.objs.size a) ⟨h', g, d, k', B.os⟩) :
    wpAny B.M A (newFunctionEnv fd.scope fd.globals fd.closure (ps.zip as) (fd.qualname ++ ".<locals>.") (some a) fd.code none fd.builtins) Q E ⟨h, g, d, k, B.os⟩ := by
  refine wpAny_newFunctionEnv F.cell (fun x hx => F.loc x.1 (iv.sub _ (zip_fst hx))) (fun h' hn hs => ?_) F.kind
  refine hQ h' _ ?_
  have O1 := O.push (o := { cls := .type "frame", data := .dict #[] }) rfl (P := fun _ => True) trivial
  obtain ⟨o', es, ep, ho, hd, hk, he⟩ := hn
  exact O1.same .head hs ⟨o', ho, es, ep, hd, hk, iv.fv F.nd fun k _ => he k⟩

theorem Sw.callF {fd : FuncData} {body : List Stmt} {ps ks : List Str} {as : List Value} {vs : List (Option Value)} {a : Addr} {Φ : Value → SH → Prop} (H : FnHere B a fd σ) (F : FnOk fd body ps ks false) (hroom : Roomy A 1) (iv : IV ps as ks vs)
    (x : ∀ L, Sw B (A.deeper (envF fd L a)) (execs body (envF fd L a)) (Back Φ) NoE (.o L (frameP ks vs) :: σ))
    (hl : as.length = ps.length := by rfl) : Sw B A (call (.ref a) as) Φ Ψ σ := fun h g d k O => by
  obtain ⟨⟨o, ho, hd⟩, hcd⟩ := H h g O
  refine wpAny_call (codeAny_call_function hroom.lt ho hd F.co F.gen F.body hcd ?_)
  rw [F.bind as hl]
  refine wpAny_pure ?_
  refine newEnv_own F hl iv O fun h' k' O' => ⟨O'.noLimit, codeAny_func ?_⟩
  refine wpAny_mono (x h.objs.size h' g d k' O') (fun f s q => ?_) fun _ _ q => q.none
  obtain ⟨τ, O, e, τ', hs, q⟩ := q
  exact ⟨τ', O.sublist hs, e, q⟩

theorem Sw.callG {fd : FuncData} {body : List Stmt} {ps ks : List Str} {as : List Value} {vs : List (Option Value)} {a : Addr} {Φ : Value → SH → Prop} (H : FnHere B a fd σ) (F : FnOk fd body ps ks true) (hroom : Roomy A 1) (iv : IV ps as ks vs)
    (x : ∀ L n q, Φ (.ref q) (.o q (genP n) :: .g n (.fresh (.func body (envF fd L a))) :: .o L (frameP ks vs) :: σ))
    (hl : as.length = ps.length := by rfl) : Sw B A (PySem.call (.ref a) as) Φ Ψ σ := fun h g d k O => by
  obtain ⟨⟨o, ho, hd⟩, hcd⟩ := H h g O
  refine wpAny_call (codeAny_call_generator hroom.lt ho hd F.co F.gen F.body hcd ?_)
  rw [F.bind as hl]
  refine wpAny_pure ?_
  refine newEnv_own F hl iv O fun h' k' O' => ⟨O'.noLimit, ?_⟩
  have O2 := O'.newGen (st := .fresh (.func body (envF fd h.objs.size a))) rfl
  have O3 := O2.push (o := { cls := .type "generator", data := .fields #[.int g.size 0, .str fd.name k', .str fd.qualname (k' + 1)] }) rfl (P := genP g.size) ⟨_, _, rfl⟩
  exact .mk O3 (x _ _ _)
-- a def of the text's top
theorem fn_here {a c : Addr} {o oc : Obj} {fd : FuncData} {vs : Array Value} {t : Tok} (h1 : (KF B.w).lookup a = some o) (h2 : o.data = .func fd) (h3 : fd.code = .ref c) (h4 : (KF B.w).lookup c = some oc) (h5 : oc.data = .fields vs) (h6 : vs[1]? = some (.str fd.qualname t)) : FnHere B a fd σ := fun h g O =>
  ⟨⟨o, O.keep _ _ (O.wf.K _ _ h1), h2⟩, ⟨c, oc, vs, t, h3, O.keep _ _ (O.wf.K _ _ h4), h5, h6⟩⟩
end
end

-- B6
section
def listP (vs : List Value) (o : Obj) : Prop := ∃ n, o = { cls := .type "list", dict := none, data := .seq vs.toArray n, slots := #[] }
def tupP (vs : List Value) (o : Obj) : Prop := ∃ n, o = { cls := .type "tuple", dict := none, data := .seq vs.toArray n, slots := #[] }
def liP (l : Addr) (i : Nat) (o : Obj) : Prop := o.cls = .type "list_iterator" ∧ o.data = .fields #[.ref l, .int i 0]
def anyP (_ : Obj) : Prop := True

section
variable {B : Bx} {A : Around} {Ψ : Value → SH → Prop} {σ τ : SH} {env : Env}
theorem isList_of {h : Heap} {l : Addr} {vs : List Value} (x : ∃ o, h.get? l = some o ∧ listP vs o) : h.IsList l vs.toArray := by
  obtain ⟨o, ho, n, rfl⟩ := x
  exact ⟨_, ho, rfl, n, rfl⟩
-- a new thing stands second: the frame stays at the head
theorem Own.push2 {w : World} {G h : Heap} {g : Array GenState} {c : Cl} (O : Own w G h g (c :: σ)) {o : Obj} (hf : o.isFreed = false) {P : Obj → Prop} (hP : P o) : Own w G (h.push o) g (c :: .o h.objs.size P :: σ) := (O.push hf hP).perm (List.Perm.swap ..)
theorem Sw.iter_list {l : Addr} {vs : List Value} {c : Cl} {Φ : Value → SH → Prop} (m : Cl.o l (listP vs) ∈ c :: σ) (x : ∀ it, Φ (.ref it) (c :: .o it (liP l 0) :: σ)) : Sw B A (pyIter (.ref l)) Φ Ψ (c :: σ) := fun h g d k O =>
  wpAny_pyIter_list (isList_of (O.get m)) (.mk (O.push2 rfl ⟨rfl, rfl⟩) (x _))
theorem Sw.next_list {l it : Addr} {vs : List Value} {i : Nat} {v : Value} {Φ : Option Value → SH → Prop} (u : Upd it (liP l i) (liP l (i + 1)) σ τ) (m : Cl.o l (listP vs) ∈ σ) (hv : vs[i]? = some v) (x : Φ (some v) τ) : Sw B A (pyNext (.ref it)) Φ Ψ σ := fun h g d k O => by
  obtain ⟨oi, hi, c1, c2⟩ := O.get u.mem
  exact wpAny_pyNext_list_item ⟨oi, hi, c1, c2⟩ (isList_of (O.get m)) (by simpa using hv) fun h' hn hs => .mk (O.same u hs (by obtain ⟨o, a, b, c⟩ := hn; exact ⟨o, a, b, c⟩)) x
-- dropping one from the owned
inductive Del (c : Cl) : SH → SH → Prop
  | head {r} : Del c (c :: r) r
  | tail {d r r'} : Del c r r' → Del c (d :: r) (d :: r')
theorem Del.sub {c : Cl} : ∀ {σ τ : SH}, Del c σ τ → τ.Sublist σ
  | _, _, .head => .cons _ (.refl _)
  | _, _, .tail d => .cons_cons _ d.sub
theorem Del.mem {c : Cl} : ∀ {σ τ : SH}, Del c σ τ → c ∈ σ
  | _, _, .head => .head _
  | _, _, .tail d => .tail _ d.mem
theorem Del.perm {c : Cl} : ∀ {σ τ : SH}, Del c σ τ → σ.Perm (c :: τ)
  | _, _, .head => .refl _
  | _, _, .tail d => (List.Perm.cons _ d.perm).trans (List.Perm.swap ..)
theorem Own.extDel {w : World} {G h h' : Heap} {g : Array GenState} {a : Addr} {P : Obj → Prop} (O : Own w G h g σ) (u : Del (.o a P) σ τ) (hs : Heap.ExtBut a h h') : Own w G h' g τ := by
  have O1 := O.sublist u.sub
  have hne : ∀ Q, Cl.o a Q ∉ τ := fun Q hm => by
    have nd := (u.perm.map Cl.key).nodup_iff.mp O.nodup
    rw [List.map_cons] at nd
    exact (List.nodup_cons.mp nd).1 (List.mem_map.mpr ⟨_, hm, rfl⟩)
  have low := O.low a P u.mem
  refine ⟨O.wf, fun b o e => hs b o (fun q => by rw [q, low] at e; cases e) (O.keep b o e), fun c hc => ?_, O1.low, O1.nodup, O.bare⟩
  have z := O1.at' c hc
  cases c with
  | o b Q => obtain ⟨o', e, q⟩ := z; exact ⟨o', hs b o' (fun q => hne Q (q ▸ hc)) e, q⟩
  | g n st => exact z
theorem Sw.next_list_end {l it : Addr} {vs : List Value} {i : Nat} {Φ : Option Value → SH → Prop} (hh : A.handled = none) (u : Del (.o it (liP l i)) σ τ) (m : Cl.o l (listP vs) ∈ σ) (hv : vs[i]? = none) (x : Φ none τ) : Sw B A (pyNext (.ref it)) Φ Ψ σ := fun h g d k O => by
  obtain ⟨oi, hi, c1, c2⟩ := O.get u.mem
  exact wpAny_pyNext_list_end hh ⟨oi, hi, c1, c2⟩ (isList_of (O.get m)) (by simpa using hv) fun h' hs => .mk (O.extDel u hs) x

-- identity of two things that are owned
def Solid (a : Addr) (σ : SH) : Prop := ∃ P, Cl.o a P ∈ σ ∧ ∀ ob, P ob → ob.cls ≠ .type "tuple"
theorem Sw.is_refs {a b : Addr} {Φ : Value → SH → Prop} (ha : Solid a σ) (hb : Solid b σ) (x : Φ (.bool (decide (a = b))) σ) : Sw B A (compareOp .Is (.ref a) (.ref b)) Φ Ψ σ := fun h g d k O => by
  obtain ⟨P, m, hp⟩ := ha
  obtain ⟨Q, m', hq⟩ := hb
  obtain ⟨oa, e1, q1⟩ := O.get m
  obtain ⟨ob, e2, q2⟩ := O.get m'
  by_cases q : a = b
  · subst q
    rw [decide_eq_true rfl] at x
    exact wpAny_is_ref_self (.mk O x)
  · rw [decide_eq_false q] at x
    exact wpAny_is_ref_other q e1 e2 (hp _ q1) (.mk O x)
theorem Sw.isnot_refs {a b : Addr} {Φ : Value → SH → Prop} (ha : Solid a σ) (hb : Solid b σ) (x : Φ (.bool (!decide (a = b))) σ) : Sw B A (compareOp .IsNot (.ref a) (.ref b)) Φ Ψ σ := fun h g d k O => by
  obtain ⟨P, m, hp⟩ := ha
  obtain ⟨Q, m', hq⟩ := hb
  obtain ⟨oa, e1, q1⟩ := O.get m
  obtain ⟨ob, e2, q2⟩ := O.get m'
  by_cases q : a = b
  · subst q
    rw [decide_eq_true rfl] at x
    exact wpAny_isNot_ref_self (.mk O x)
  · rw [decide_eq_false q] at x
    exact wpAny_isNot_ref_other q e1 e2 (hp _ q1) (.mk O x)
theorem Sw.is_plain {a b : Value} {Φ : Value → SH → Prop} (hp : plainIs a b = true) (x : Φ (.bool (a == b)) σ) : Sw B A (compareOp .Is a b) Φ Ψ σ := fun h g d k O => wpAny_is_plain hp (.mk O x)
theorem Sw.isnot_plain {a b : Value} {Φ : Value → SH → Prop} (hp : plainIs a b = true) (x : Φ (.bool (!(a == b))) σ) : Sw B A (compareOp .IsNot a b) Φ Ψ σ := fun h g d k O => wpAny_isNot_plain hp (.mk O x)
end
end

-- P1
section
local macro_rules | `(tactic| walk_at "mem") => `(tactic| with_reducible first | assumption | exact List.mem_cons_self | (refine' List.mem_cons_of_mem _ ?a; (case a => walk_at "mem")))
local macro_rules | `(tactic| walk_at "upd") => `(tactic| with_reducible first | exact Upd.head | (refine' Upd.tail ?a; (case a => walk_at "upd")))
local macro_rules | `(tactic| walk_at "del") => `(tactic| with_reducible first | exact Del.head | (refine' Del.tail ?a; (case a => walk_at "del")))
local macro_rules | `(tactic| walk_at "nat") => `(tactic| with_reducible first | exact NAt.head | (refine' NAt.tail ?a; (case a => walk_at "nat")))
local macro_rules | `(tactic| walk_at "nput") => `(tactic| with_reducible first | exact NPut.head | (refine' NPut.tail ?a; (case a => walk_at "nput")))
local macro_rules | `(tactic| walk_at "iv") => `(tactic| with_reducible first | exact IV.nil | (refine' IV.arg ?a; (case a => walk_at "iv")) | (refine' IV.rest ?a; (case a => walk_at "iv")))
local macro_rules | `(tactic| walk_at "sub") => `(tactic| with_reducible first | exact List.Sublist.refl _ | (refine' List.Sublist.cons _ ?a; (case a => walk_at "sub")) | (refine' List.Sublist.cons_cons _ ?a; (case a => walk_at "sub")))
local macro_rules | `(tactic| walk_at "cat") => `(tactic| with_reducible first | exact CAt.head | (refine' CAt.tail ?a; (case a => walk_at "cat")))

noncomputable def fdK (w : World) (a : Addr) : FuncData := match (KF w).lookup a with | some ⟨_, _, .func fd, _⟩ => fd | _ => default

def topStmt (i : Nat) : Stmt := (PySem.Challenge.pw_ah5030_01.main.body[i]?).getD (.Pass default)
def fnScope : Stmt → Scope
  | .FunctionDef _ _ _ _ _ _ sc _ _ _ => sc
  | _ => default
def fnBody : Stmt → List Stmt
  | .FunctionDef _ _ b _ _ _ _ _ _ _ => b
  | _ => []
def fnArgs : Stmt → Arguments
  | .FunctionDef _ a _ _ _ _ _ _ _ _ => a
  | _ => default
-- a def's scope looked through, closed
def okB (sc : Scope) (ks fs : List Str) (gen : Bool) : Bool :=
  (!sc.isCoroutine && (sc.isGenerator == gen)) && (decide (sc.kind = .function) && decide ks.Nodup) && decide fs.Nodup &&
  ks.all (fun x => (sc.names.lookup x == some .local) && !(x == ("__debug__" : Str))) &&
  fs.all (fun x => (sc.names.lookup x == some .free || sc.names.lookup x == some .cell) && !(x == ("__debug__" : Str)) && !(x == ("__classdict__" : Str)))
def noCellB (sc : Scope) : Bool := sc.names.all fun x => decide (x.2 ≠ .cell)
theorem EnvOk.of {env : Env} {sc : Scope} {ks fs : List Str} {gen : Bool} (e : env.scope = sc) (h : okB sc ks fs gen = true) : EnvOk env ks fs := by
  subst e
  simp only [okB, Bool.and_eq_true, List.all_eq_true, decide_eq_true_eq, Bool.or_eq_true, beq_iff_eq, Bool.not_eq_true'] at h
  obtain ⟨⟨⟨⟨_, h3, h4⟩, h5⟩, h6⟩, h7⟩ := h
  exact ⟨h3, h4, fun x hx => ⟨(h6 x hx).1, (h6 x hx).2⟩, fun x hx => ⟨(h7 x hx).1.1, (h7 x hx).1.2, (h7 x hx).2⟩, h5⟩
theorem FnOk.of {fd : FuncData} {st : Stmt} {ps ks fs : List Str} {gen : Bool} (e1 : fd.scope = fnScope st) (e2 : fd.body = .stmts (fnBody st)) (h : okB (fnScope st) ks fs gen = true) (hc : noCellB (fnScope st) = true)
    (hb : ∀ as : List Value, as.length = ps.length → bindArgs fd ⟨as, []⟩ = Pure.pure (ps.zip as)) : FnOk fd (fnBody st) ps ks gen := by
  have h0 := h
  simp only [okB, Bool.and_eq_true, List.all_eq_true, decide_eq_true_eq, Bool.or_eq_true, beq_iff_eq, Bool.not_eq_true'] at h0
  obtain ⟨⟨⟨⟨⟨h1, h2⟩, h3, h4⟩, h5⟩, h6⟩, h7⟩ := h0
  refine ⟨by rw [e1]; exact h1, by rw [e1]; exact h2, e2, by rw [e1]; exact h3, fun x hx => ?_, h4, fun x hx => by rw [e1]; exact (h6 x hx).1, hb⟩
  rw [e1] at hx
  exact of_decide_eq_true (List.all_eq_true.mp hc x hx)

@[reducible] def isOpenPs : List Str := ["markers", "obj"]
@[reducible] def isOpenKs : List Str := ["markers", "obj", "one"]
def isOpenSt : Stmt := topStmt 12
theorem isOpen_b : okB (fnScope isOpenSt) isOpenKs [] false = true := by decide +kernel
theorem isOpen_c : noCellB (fnScope isOpenSt) = true := by decide +kernel
theorem isOpen_s (w : World) : (fdK w 136).scope = fnScope isOpenSt := by kernel_rfl
theorem isOpen_e (w : World) : (fdK w 136).body = .stmts (fnBody isOpenSt) := by kernel_rfl
theorem isOpen_bind (w : World) (a b : Value) : bindArgs (fdK w 136) ⟨[a, b], []⟩ = Pure.pure (isOpenPs.zip [a, b]) := by kernel_rfl
theorem isOpen_ok (w : World) : FnOk (fdK w 136) (fnBody isOpenSt) isOpenPs isOpenKs false :=
  FnOk.of (isOpen_s w) (isOpen_e w) isOpen_b isOpen_c fun as h => by
    match as, h with
    | [a, b], _ => exact isOpen_bind w a b
theorem isOpen_here {B : Bx} {σ : SH} : FnHere B 136 (fdK B.w 136) σ := fn_here rfl rfl rfl rfl rfl rfl


-- names of the text's top and of the machine's own
theorem g_is_open (w : World) : nsIn (KF w) mainGlobals (Str.ofString "is_open") = some (some (.ref 136)) := by kernel_rfl
theorem b_ValueError : bootBuiltins (Str.ofString "ValueError") = some (.type "ValueError") := by decide +kernel

local macro_rules | `(tactic| walk_at "gl") => `(tactic| with_reducible first | exact g_is_open _)
local macro_rules | `(tactic| walk_at "bl") => `(tactic| with_reducible first | exact b_ValueError)
local macro_rules | `(tactic| walk_at "py1") => `(tactic| with_reducible first
  | refine Sw.execs_nil ?_
  | refine Sw.execs_cons ?_
  | refine ite_pos (c := true = true) rfl ?_
  | refine ite_neg (c := false = true) Bool.false_ne_true ?_
  | refine Sw.s_Assign_Name ?_
  | refine Sw.s_AugAssign_Name ?_
  | refine Sw.s_If ?_
  | refine Sw.s_Return ?_
  | refine Sw.s_Return0 ?_
  | refine Sw.s_Pass ?_
  | refine Sw.s_Expr ?_
  | refine Sw.s_For ?_
  | refine Sw.s_While ?_
  | (refine Sw.e_Const_int ?_; intro _)
  | (refine Sw.e_Const_str ?_; intro _)
  | refine Sw.e_Const_none ?_
  | refine Sw.e_Const_bool ?_
  | refine Sw.e_BinOp ?_
  | refine Sw.e_Compare ?_
  | refine Sw.e_UnaryOp ?_
  | refine Sw.isTrue_Compare ?_
  | refine Sw.isTrue_not ?_
  | refine Sw.isTrue_Name ?_
  | refine Sw.isTrue_Call ?_
  | refine Sw.isTrue_Attribute ?_
  | refine Sw.isTrue_Subscript ?_
  | refine Sw.truthy_bool ?_
  | refine Sw.assign_Name ?_
  | (refine' Sw.ld ?e ?a ?_; (case e => assumption); (case a => walk_at "nat"))
  | (refine' Sw.ldn ?e ?a ?_; (case e => assumption); (case a => walk_at "nat"))
  | (refine' Sw.st ?e ?p ?_; (case e => assumption); (case p => walk_at "nput"))
  | (refine' Sw.ldg ?e ?k ?x ?g ?d ?_; (case e => walk_at "gl"); (case k => kernel_rfl); (case x => kernel_rfl); (case g => kernel_rfl); (case d => decide))
  | (refine' Sw.ldb ?e ?v ?n ?k ?x ?g ?b ?d ?_; (case v => walk_at "bl"); (case e => kernel_rfl); (case n => decide); (case k => kernel_rfl); (case x => kernel_rfl); (case g => kernel_rfl); (case b => kernel_rfl); (case d => decide)))
local macro_rules | `(tactic| walk_at "py") => `(tactic| repeat (first | walk_at "py1" | (dsimp only; walk_at "py1")))

section
variable {B : Bx} {A : Around} {Ψ : Value → SH → Prop} {σ τ : SH}
theorem isOpen_env (w : World) (L a : Addr) : EnvOk (envF (fdK w 136) L a) isOpenKs [] := EnvOk.of (isOpen_s w) isOpen_b

theorem isOpen_call {m o : Addr} {ms : List Addr} {Φ : Value → SH → Prop} (hr : Roomy A 3) (hh : A.handled = none) (hm : Cl.o m (listP (ms.map .ref)) ∈ σ) (hs : ∀ a ∈ o :: ms, Solid a σ)
    (x : Φ (.bool (decide (o ∈ ms))) σ) : Sw B A (call (.ref 136) [.ref m, .ref o]) Φ Ψ σ := by
  refine' Sw.callF isOpen_here (isOpen_ok B.w) ?r ?iv ?_
  case r => exact ⟨by have := hr.depth; omega, by have := hr.units; omega⟩
  case iv => walk_at "iv"
  intro L
  have E := isOpen_env B.w L 136
  refine Sw.execs_cons ?_
  walk_at "py"
  refine' Sw.iter_list (vs := ms.map .ref) ?m ?_
  case m => walk_at "mem"
  intro it
  refine Sc.forJ (fun n τ => ∃ dn rs u, ms = dn ++ rs ∧ n = rs.length ∧ o ∉ dn ∧ τ = .o (envF (fdK B.w 136) L 136).locals (frameP isOpenKs [some (.ref m), some (.ref o), u]) :: .o it (liP m dn.length) :: σ) ?_ ⟨[], ms, none, rfl, rfl, List.not_mem_nil, rfl⟩
  rintro n τ ⟨dn, rs, u, e, rfl, hn, rfl⟩
  cases rs with
  | nil =>
    refine Sw.next_list_end (l := m) (vs := ms.map .ref) (i := dn.length) hh (by walk_at "del") (by walk_at "mem") (by simp [e]) ?_
    walk_at "py"
    simp only [e, List.append_nil] at x ⊢
    rw [decide_eq_false hn] at x
    exact ⟨σ, by walk_at "sub", x⟩
  | cons a rs =>
    refine Sw.next_list (l := m) (vs := ms.map .ref) (i := dn.length) (v := .ref a) (by walk_at "upd") (by walk_at "mem") (by simp [e]) ?_
    have ha : Solid a σ := hs a (by rw [e]; simp)
    have ho : Solid o σ := hs o (List.mem_cons_self ..)
    have up : ∀ {x : Addr} {c d : Cl}, Solid x σ → Solid x (c :: d :: σ) := fun ⟨P, h1, h2⟩ => ⟨P, .tail _ (.tail _ h1), h2⟩
    refine Sw.pure ?_
    refine Sw.assign_Name ?_
    walk_at "py"
    refine Sw.is_refs (up ha) (up ho) ?_
    walk_at "py"
    by_cases q : a = o
    · simp only [q, decide_true, if_true]
      walk_at "py"
      rw [decide_eq_true (by rw [e, q]; simp)] at x
      exact ⟨σ, by walk_at "sub", x⟩
    · simp only [q, decide_false]
      walk_at "py"
      refine ⟨rs.length, by simp, dn ++ [a], rs, some (.ref a), by simp [e], rfl, ?_, ?_⟩
      · simp only [List.mem_append, List.mem_singleton, not_or]
        exact ⟨hn, fun z => q z.symm⟩
      · simp
end
end

-- E1
section
def excP (cls : String) (tb : Value) (o : Obj) : Prop := o.cls = .type cls ∧ ∃ vs a0, o.data = .fields vs ∧ vs[0]? = some a0 ∧ vs[1]? = some tb
def tbP (fl : Value) (o : Obj) : Prop := ∃ ts, o.data = .fields ts ∧ ts[3]? = some fl
def Frs (l : List Env) (σ : SH) : Prop := ∀ env ∈ l, env.scope.kind ≠ .module ∧ ∃ L ks vs, env.frame = some L ∧ Cl.o L (frameP ks vs) ∈ σ
abbrev frs (l : List Env) : List Addr := l.filterMap (·.frame)

section
variable {B : Bx} {A : Around} {Ψ : Value → SH → Prop} {σ τ : SH} {env : Env} {e T L : Addr} {cls : String} {l : List Env} {w : World} {G h h' : Heap} {g : Array GenState}

theorem Frs.sub (F : Frs l σ) (hs : ∀ c ∈ σ, c ∈ τ) : Frs l τ := fun env he => let ⟨k, L, ks, vs, hf, hm⟩ := F env he; ⟨k, L, ks, vs, hf, hs _ hm⟩
theorem Frs.nil : Frs [] σ := fun _ h => nomatch h
theorem Frs.cons {ks : List Str} {vs : List (Option Value)} (F : Frs l σ) (hk : env.scope.kind ≠ .module) (hf : env.frame = some L) (hm : Cl.o L (frameP ks vs) ∈ σ) : Frs (env :: l) σ := fun en he => by
  rcases List.mem_cons.mp he with rfl | he
  · exact ⟨hk, L, ks, vs, hf, hm⟩
  · exact F en he
-- one place has one word
theorem Own.one (O : Own w G h g σ) {a : Addr} {P Q : Obj → Prop} (m : Cl.o a P ∈ σ) (m' : Cl.o a Q ∈ σ) : P = Q := by
  have nd := O.nodup
  clear O
  induction σ with
  | nil => cases m
  | cons c r ih =>
    rw [List.map_cons] at nd
    obtain ⟨h1, h2⟩ := List.nodup_cons.mp nd
    rcases List.mem_cons.mp m with q | q <;> rcases List.mem_cons.mp m' with q' | q'
    · rw [← q] at q'; cases q'; rfl
    · subst q; exact (h1 (List.mem_map.mpr ⟨_, q', rfl⟩)).elim
    · subst q'; exact (h1 (List.mem_map.mpr ⟨_, q, rfl⟩)).elim
    · exact ih q q' h2
theorem Own.frames (O : Own w G h g σ) (F : Frs l σ) {base : Heap} (hb : ∀ a ∈ frs l, base.get? a = none) : h.FunFrames base l := by
  induction l with
  | nil => trivial
  | cons env r ih =>
    obtain ⟨k, L, ks, vs, hf, hm⟩ := F env (.head _)
    refine ⟨k, ?_, ih (fun en he => F en (.tail _ he)) fun a ha => hb a ?_⟩
    · obtain ⟨o, ho, es, ep, hd, _⟩ := O.get hm
      exact ⟨L, o, hf, hb L (by simp [frs, hf]), ho, fun vs q => by rw [hd] at q; cases q⟩
    · show a ∈ (env :: r).filterMap (·.frame)
      rw [List.filterMap_cons, hf]
      exact List.mem_cons_of_mem _ ha
-- the hidden ground of a note
theorem Own.noted {hid : List Addr} {fl a0 : Value} (O : Own w G h g σ) (F : Frs l σ) (he : ∀ P, Cl.o e P ∉ σ) (hG : ∀ a ∈ hid, G.get? a = none) (hid0 : ∀ a ∈ hid, a ∈ frs l ∨ ∀ P, Cl.o a P ∉ σ)
    (hG' : ∀ a, G.get? a ≠ none → a ≠ e)
    (hN : Heap.NotedW (hideAll h hid) l e (.type cls) a0 fl h h') : ∃ T, Own w G h' g (.o e (excP cls (.ref T)) :: .o T (tbP fl) :: σ) := by
  obtain ⟨st, ff, ⟨oe, vs, T, oT, ts, h1, ⟨hc, h0⟩, h2, h3, h4, h5, h6, h7, h8⟩, up⟩ := hN
  have fresh : ∀ P, Cl.o T P ∉ σ := fun P hm => by
    obtain ⟨o, ho, _⟩ := O.get hm
    by_cases q : T ∈ hid
    · rcases hid0 T q with q' | q'
      · obtain ⟨en, hen, hf⟩ := List.mem_filterMap.mp q'
        obtain ⟨_, L', ks, vs', hf', hm'⟩ := F en hen
        have : L' = T := by rw [hf] at hf'; exact (Option.some.inj hf').symm
        subst this
        obtain ⟨o', ho', es, ep, hd, _⟩ := O.get hm'
        obtain ⟨sl, z⟩ := up _ _ ho' (fun vs q => by rw [hd] at q; cases q)
        rw [h6] at z
        cases z
        rw [h7] at hd
        cases hd
      · exact q' P hm
    · rw [hideAll_get _ ho q] at h4; cases h4
  refine ⟨T, O.wf, fun b o hb => ?_, ?_, ?_, ?_, O.bare⟩
  · exact st b o (hideAll_get _ (O.keep b o hb) fun q => by rw [hG b q] at hb; cases hb)
  · intro c hc
    rcases List.mem_cons.mp hc with rfl | hc
    · exact ⟨oe, h1, by rw [‹oe.cls = _›], vs, a0, h2, h0, h3⟩
    rcases List.mem_cons.mp hc with rfl | hc
    · exact ⟨oT, h6, ts, h7, h8⟩
    have z := O.at' c hc
    cases c with
    | g n st => exact z
    | o a P =>
      obtain ⟨o, ho, hp⟩ := z
      by_cases q : a ∈ hid
      · rcases hid0 a q with q' | q'
        · obtain ⟨en, hen, hf⟩ := List.mem_filterMap.mp q'
          obtain ⟨_, L', ks, vs', hf', hm'⟩ := F en hen
          have : L' = a := by rw [hf] at hf'; exact (Option.some.inj hf').symm
          subst this
          obtain rfl := O.one hc hm'
          have hp' := hp
          obtain ⟨es, ep, hd, k1, k2⟩ := hp
          obtain ⟨sl, z⟩ := up _ _ ho (fun vs q => by rw [hd] at q; cases q)
          exact ⟨_, z, es, ep, hd, k1, k2⟩
        · exact (q' P hc).elim
      · exact ⟨o, st a o (hideAll_get _ ho q), hp⟩
  · intro a P hm
    rcases List.mem_cons.mp hm with q | hm
    · cases q
      cases z : G.get? e with
      | none => rfl
      | some o => exact (hG' e (by rw [z]; intro q; cases q) rfl).elim
    rcases List.mem_cons.mp hm with q | hm
    · cases q
      cases z : G.get? T with
      | none => rfl
      | some o =>
        have hk := O.keep _ _ z
        by_cases q : T ∈ hid
        · rw [hG T q] at z; cases z
        · rw [hideAll_get _ hk q] at h4; cases h4
    · exact O.low a P hm
  · rw [List.map_cons, List.map_cons]
    refine List.nodup_cons.mpr ⟨fun hm => ?_, List.nodup_cons.mpr ⟨fun hm => ?_, O.nodup⟩⟩
    · rcases List.mem_cons.mp hm with q | hm
      · have q' : @Eq Nat (2 * e) (2 * T) := q
        have h5' : ¬ @Eq Nat T e := h5
        omega
      · obtain ⟨c, hc, hk⟩ := List.mem_map.mp hm
        cases c with
        | o a P =>
          have hk' : @Eq Nat (2 * a) (2 * e) := hk
          have : @Eq Nat a e := by omega
          subst this
          exact he P hc
        | g n st =>
          have hk' : @Eq Nat (2 * n + 1) (2 * e) := hk
          omega
    · obtain ⟨c, hc, hk⟩ := List.mem_map.mp hm
      cases c with
      | o a P =>
        have hk' : @Eq Nat (2 * a) (2 * T) := hk
        have : @Eq Nat a T := by omega
        subst this
        exact fresh P hc
      | g n st =>
        have hk' : @Eq Nat (2 * n + 1) (2 * T) := hk
        omega

theorem Own.fresh2 (O : Own w G h g (.o e (excP cls (.ref T)) :: .o T (tbP .none) :: σ)) : (∀ P, Cl.o e P ∉ σ) ∧ (∀ P, Cl.o T P ∉ σ) ∧ T ≠ e ∧ G.get? e = none ∧ G.get? T = none := by
  have nd := O.nodup
  rw [List.map_cons, List.map_cons] at nd
  obtain ⟨n1, n2⟩ := List.nodup_cons.mp nd
  obtain ⟨n3, _⟩ := List.nodup_cons.mp n2
  refine ⟨fun P hm => n1 (.tail _ (List.mem_map.mpr ⟨_, hm, rfl⟩)), fun P hm => n3 (List.mem_map.mpr ⟨_, hm, rfl⟩), fun q => n1 ?_, O.low e _ (.head _), O.low T _ (.tail _ (.head _))⟩
  rw [q]; exact .head _
theorem frs_low (O : Own w G h g σ) (F : Frs l σ) : ∀ a ∈ frs l, G.get? a = none := fun a ha => by
  obtain ⟨en, hen, hf⟩ := List.mem_filterMap.mp ha
  obtain ⟨_, L', ks, vs', hf', hm'⟩ := F en hen
  have : L' = a := by rw [hf] at hf'; exact (Option.some.inj hf').symm
  subst this
  exact O.low _ _ hm'
-- the first note that an exception gets
theorem Sw.note_first {Φ : Unit → SH → Prop} (hfr : A.frames = some (env :: l)) (F : Frs (env :: l) σ) (hf : env.frame = some L) (x : ∀ T, Φ () (.o e (excP cls (.ref T)) :: .o T (tbP (rawInt L)) :: σ)) :
    Sw B A (noteFrame (.ref e) env) Φ Ψ (.o e (excP cls .none) :: σ) := fun h g d k O => by
  obtain ⟨oe, he, hc, vs, a0, hd, h0, h1⟩ := O.get (.head _)
  have O1 : Own B.w B.G h g σ := O.sublist (.cons _ (.refl _))
  have nd := O.nodup
  rw [List.map_cons] at nd
  obtain ⟨n1, _⟩ := List.nodup_cons.mp nd
  have hne : ∀ P, Cl.o e P ∉ σ := fun P hm => n1 (List.mem_map.mpr ⟨_, hm, rfl⟩)
  have hGe := O.low e _ (.head _)
  unfold noteFrame
  simp only [hf]
  refine wpAny_bind (wpAny_field he hd h1 ?_)
  rw [if_neg (by decide)]
  refine wpAny_entryW (base := hideAll h (e :: frs (env :: l))) hfr (O1.frames F fun a ha => hideAll_none _ (.tail _ ha)) hf he (fun b o q => of_hideAll _ q) (hideAll_none _ (.head _)) hd (Array.getElem?_eq_some_iff.mp h1).1 h0 fun h' hN => ?_
  rw [hc] at hN
  obtain ⟨T, O2⟩ := Own.noted O1 F hne (fun a ha => by
    rcases List.mem_cons.mp ha with rfl | ha
    · exact hGe
    · exact frs_low O1 F a ha) (fun a ha => by
    rcases List.mem_cons.mp ha with rfl | ha
    · exact .inr hne
    · exact .inl ha) (fun a ha q => ha (q ▸ hGe)) hN
  exact .mk O2 (x T)
theorem Sw.note_next {Φ : Unit → SH → Prop} (hfr : A.frames = some (env :: l)) (F : Frs (env :: l) σ) (hf : env.frame = some L) (x : ∀ T, Φ () (.o e (excP cls (.ref T)) :: .o T (tbP (rawInt L)) :: σ)) :
    Sw B A (noteFrame (.ref e) env) Φ Ψ (.o e (excP cls (.ref T)) :: .o T (tbP .none) :: σ) := fun h g d k O => by
  obtain ⟨hne, hnT, hTe, hGe, hGT⟩ := O.fresh2
  obtain ⟨oe, he, hc, vs, a0, hd, h0, h1⟩ := O.get (.head _)
  obtain ⟨oT, hT, ts, hdT, h3⟩ := O.get (.tail _ (.head _))
  have O1 : Own B.w B.G h g σ := O.sublist (.cons _ (.cons _ (.refl _)))
  refine wpAny_noteFrame_onW (base := hideAll h (e :: T :: frs (env :: l))) hfr (O1.frames F fun a ha => hideAll_none _ (.tail _ (.tail _ ha))) hf
    ⟨oe, vs, T, oT, ts, he, ⟨hc, h0⟩, hd, h1, hideAll_none _ (.tail _ (.head _)), hTe, hT, hdT, h3⟩ (fun b o q => of_hideAll _ q) (hideAll_none _ (.head _)) fun h' hN => ?_
  obtain ⟨T', O2⟩ := Own.noted O1 F hne (fun a ha => by
    rcases List.mem_cons.mp ha with rfl | ha
    · exact hGe
    rcases List.mem_cons.mp ha with rfl | ha
    · exact hGT
    · exact frs_low O1 F a ha) (fun a ha => by
    rcases List.mem_cons.mp ha with rfl | ha
    · exact .inr hne
    rcases List.mem_cons.mp ha with rfl | ha
    · exact .inr hnT
    · exact .inl ha) (fun a ha q => ha (q ▸ hGe)) hN
  exact .mk O2 (x T')
theorem Sw.note_again {Φ : Unit → SH → Prop} (hf : env.frame = some L) (x : Φ () (.o e (excP cls (.ref T)) :: .o T (tbP (rawInt L)) :: σ)) :
    Sw B A (noteFrame (.ref e) env) Φ Ψ (.o e (excP cls (.ref T)) :: .o T (tbP (rawInt L)) :: σ) := fun h g d k O => by
  obtain ⟨oe, he, hc, vs, a0, hd, h0, h1⟩ := O.get (.head _)
  obtain ⟨oT, hT, ts, hdT, h3⟩ := O.get (.tail _ (.head _))
  unfold noteFrame
  simp only [hf]
  refine wpAny_bind (wpAny_field he hd h1 ?_)
  rw [if_pos (show (Value.ref T != Value.none) = true from by simp)]
  refine wpAny_bind (wpAny_field hT hdT h3 ?_)
  rw [if_pos (show (rawInt L == rawInt L) = true from by simp)]
  exact wpAny_pure (.mk O x)
theorem Sw.flight {Φ : Unit → SH → Prop} {fl : Value} {fr : Option Addr} (x : Φ () (.o e (excP cls (.ref T)) :: .o T (tbP (fr.elim .none fun f => rawInt f)) :: σ)) :
    Sw B A (setFlight (.ref e) fr) Φ Ψ (.o e (excP cls (.ref T)) :: .o T (tbP fl) :: σ) := fun h g d k O => by
  obtain ⟨oe, he, hc, vs, a0, hd, h0, h1⟩ := O.get (.head _)
  obtain ⟨oT, hT, ts, hdT, h3⟩ := O.get (.tail _ (.head _))
  unfold setFlight
  refine wpAny_bind (wpAny_field he hd h1 ?_)
  rw [if_pos (show (Value.ref T != Value.none) = true from by simp)]
  have hsz : 3 < ts.size := (Array.getElem?_eq_some_iff.mp h3).1
  refine wpAny_setField hT hdT hsz (.mk (O.update (.tail .head) fun o ho => ?_) x)
  obtain ⟨ts', hd', h3'⟩ := ho
  have hsz' : 3 < ts'.size := (Array.getElem?_eq_some_iff.mp h3').1
  exact ⟨Obj.isFreed_of_fields (Obj.data_mapFields hd' _), _, Obj.data_mapFields hd' _, by simp [hsz']⟩
theorem Sw.leaving_first {Φ : Unit → SH → Prop} (hfr : A.frames = some (env :: l)) (F : Frs (env :: l) σ) (hf : env.frame = some L) (x : ∀ T, Φ () (.o e (excP cls (.ref T)) :: .o T (tbP .none) :: σ)) :
    Sw B A (leaving env (.ref e)) Φ Ψ (.o e (excP cls .none) :: σ) := Sw.bind (Sw.note_first hfr F hf fun T => Sw.flight (fr := none) (x T))
theorem Sw.leaving_next {Φ : Unit → SH → Prop} (hfr : A.frames = some (env :: l)) (F : Frs (env :: l) σ) (hf : env.frame = some L) (x : ∀ T, Φ () (.o e (excP cls (.ref T)) :: .o T (tbP .none) :: σ)) :
    Sw B A (leaving env (.ref e)) Φ Ψ (.o e (excP cls (.ref T)) :: .o T (tbP .none) :: σ) := Sw.bind (Sw.note_next hfr F hf fun T => Sw.flight (fr := none) (x T))
theorem Sw.leaving_again {Φ : Unit → SH → Prop} (hf : env.frame = some L) (x : Φ () (.o e (excP cls (.ref T)) :: .o T (tbP .none) :: σ)) :
    Sw B A (leaving env (.ref e)) Φ Ψ (.o e (excP cls (.ref T)) :: .o T (tbP (rawInt L)) :: σ) := Sw.bind (Sw.note_again hf (Sw.flight (fr := none) x))
theorem Sw.lotGoes {Φ : Unit → SH → Prop} {v : Value} (x : Φ () σ) : Sw B A (theTreesLotGoes v) Φ Ψ σ := fun h g d k O => wpAny_theTreesLotGoes (.mk O x)
-- the arguments of a call, one after the other
def Args (B : Bx) (A : Around) (Ψ : Value → SH → Prop) (env : Env) : List Expr → (List Value → SH → Prop) → SH → Prop
  | [], Φ, σ => Φ [] σ
  | e :: es, Φ, σ => Sw B A (eval e env) (fun v τ => Args B A Ψ env es (fun vs => Φ (v :: vs)) τ) Ψ σ
@[reducible] def plainE : Expr → Bool
  | .Starred .. => false
  | _ => true
theorem Args.mono {es : List Expr} {Φ Φ' : List Value → SH → Prop} (x : Args B A Ψ env es Φ σ) (f : ∀ vs τ, Φ vs τ → Φ' vs τ) : Args B A Ψ env es Φ' σ := by
  induction es generalizing σ Φ Φ' with
  | nil => exact f _ _ x
  | cons e es ih => exact Sw.mono x (fun v τ q => ih q fun vs τ => f _ _) fun _ _ q => q
theorem star_plain {e : Expr} {es : List Expr} (h : plainE e = true) : starEach (e :: es) env = (false, eval e env) :: starEach es env := by
  cases e <;> first | rfl | cases h
theorem Sw.spliced {es : List Expr} {pos : Pos} {Φ : List Value → SH → Prop} (hp : es.all plainE = true) (x : Args B A Ψ env es Φ σ) : Sw B A (spliced (backTo pos (starEach es env))) Φ Ψ σ := by
  induction es generalizing σ Φ with
  | nil => exact fun h g d k O => Calls.spliced_nil (.mk O x)
  | cons e es ih =>
    rw [List.all_cons, Bool.and_eq_true] at hp
    rw [star_plain hp.1]
    exact fun h g d k O => Calls.spliced_cons (wpAny_mono (x h g d k O) (fun v s q => PA.bind (m := v) (f := fun v => PySem.spliced (backTo pos (starEach es env))) (q.mono fun τ q => ih hp.2 q)) fun _ _ q => q)
theorem backTo_any {es : List Expr} {pos : Pos} (hp : es.all plainE = true) : (backTo pos (starEach es env)).any (·.1) = false := by
  induction es with
  | nil => rfl
  | cons e es ih =>
    rw [List.all_cons, Bool.and_eq_true] at hp
    rw [star_plain hp.1]
    simpa [backTo] using ih hp.2
theorem Sw.evalArgs {f : Value} {es : List Expr} {pos : Pos} {Φ : PySem.Args → SH → Prop} (hp : es.all plainE = true) (x : Args B A Ψ env es (fun vs => Φ ⟨vs, []⟩) σ) : Sw B A (evalArgs f true (backTo pos (starEach es env)) []) Φ Ψ σ := by
  cases es with
  | nil => exact fun h g d k O => evalArgs_nil3 (.mk O x)
  | cons e es =>
    have z := Sw.spliced (pos := pos) (env := env) hp x
    rw [star_plain (by rw [List.all_cons, Bool.and_eq_true] at hp; exact hp.1)] at z ⊢
    exact fun h g d k O => Calls.evalArgs_plain (wpAny_mono (z h g d k O) (fun vs s q => q) fun _ _ q => q)
-- whom one calls
@[reducible] def calleeB : Value → Bool
  | .builtin _ | .type _ | .ref _ => true
  | _ => false
def Callee (B : Bx) (f : Value) (τ : SH) : Prop := match f with
  | .builtin _ => True
  | .type _ => True
  | .ref a => ∀ h g, Own B.w B.G h g τ → ∃ o fd, h.get? a = some o ∧ o.data = .func fd
  | _ => False
theorem Sw.callWith {f : Value} {es : List Expr} {pos : Pos} {first : List Value} {Φ : Value → SH → Prop} (hp : es.all plainE = true) (hb : calleeB f = true) (hf : ∀ T, f = .type T → first = []) (x : Args B A Ψ env es (fun vs τ => Callee B f τ ∧ Sw B A (call f (first ++ vs)) Φ Ψ τ) σ) :
    Sw B A (callWith pos f first (backTo pos (starEach es env)) []) Φ Ψ σ := fun h g d k O => by
  cases f with
  | builtin id =>
    refine Calls.callWith_builtin (backTo_any hp) (wpAny_mono (Sw.evalArgs (Φ := fun a τ => a.kw = [] ∧ Sw B A (call (.builtin id) (first ++ a.pos)) Φ Ψ τ) hp (x.mono fun vs τ q => ⟨rfl, q.2⟩) h g d k O) (fun a s q => ?_) fun _ _ q => q)
    obtain ⟨τ, O, e, hk, q⟩ := q
    obtain ⟨h, g, d, k, os⟩ := s
    cases e
    rw [hk]
    exact q h g d k O
  | type T =>
    obtain rfl := hf T rfl
    refine callWith_excType (backTo_any hp) (wpAny_mono (Sw.evalArgs (Φ := fun a τ => a.kw = [] ∧ Sw B A (call (.type T) ([] ++ a.pos)) Φ Ψ τ) hp (x.mono fun vs τ q => ⟨rfl, q.2⟩) h g d k O) (fun a s q => ?_) fun _ _ q => q)
    obtain ⟨τ, O, e, hk, q⟩ := q
    obtain ⟨h, g, d, k, os⟩ := s
    cases e
    rw [hk]
    exact q h g d k O
  | ref a =>
    have fin : ∀ {vs0 : List Value} {t : Sem Value} {h : Heap} {g : Array GenState} {d : Drawn} {k : Tok} {τ : SH}, (∀ {Q : Value → Shared → Prop} {E : Value → Shared → Prop} {s : Shared}, wpAny B.M A (call (.ref a) vs0) Q E s → wpAny B.M A t Q E s) → Own B.w B.G h g τ → Sw B A (call (.ref a) vs0) Φ Ψ τ →
        wpAny B.M A (t >>= fun r => PySem.holding [r] PySem.point >>= fun _ => Pure.pure r) (PA B Φ) (PA B Ψ) ⟨h, g, d, k, B.os⟩ := by
      intro vs0 t h g d k τ ht O q
      exact wpAny_bind (ht (wpAny_mono (q h g d k O) (fun r s hr => wpAny_bind (wpAny_holding (wpAny_point (wpAny_pure hr)))) fun _ _ q => q))
    have z := Sw.evalArgs (f := .ref a) (pos := pos) (Φ := fun a' τ => a'.kw = [] ∧ Callee B (.ref a) τ ∧ Sw B A (call (.ref a) (first ++ a'.pos)) Φ Ψ τ) hp (x.mono fun vs τ q => ⟨rfl, q⟩) h g d k O
    have hany := backTo_any (env := env) (pos := pos) hp
    unfold PySem.callWith
    refine wpAny_bind (wpAny_holding (wpAny_mono z (fun a' s q => ?_) fun _ _ q => q))
    obtain ⟨τ, O, e, hk, hc, q⟩ := q
    obtain ⟨h, g, d, k, os⟩ := s
    obtain ⟨apos, akw⟩ := a'
    cases e
    cases hk
    obtain ⟨o, fd, ho, hd⟩ := hc h g O
    refine wpAny_bind (wpAny_standAt ?_)
    simp only [hany, List.any_nil, Bool.or_false]
    refine wpAny_bind (m := keeperOf (.ref a)) ?_
    unfold keeperOf
    refine wpAny_bind (wpAny_load ho ?_)
    rw [hd]
    refine wpAny_pure ?_
    dsimp only
    split
    · exact fin (fun z => z) O q
    · exact fin (fun z => Calls.wpAny_keep z) O q
  | _ => cases hb
theorem Sw.e_Call_Name {x : Str} {np pos : Pos} {es : List Expr} {Φ : Value → SH → Prop} (y : Sw B A (eval (.Name x np) env) (fun f τ => calleeB f = true ∧ Args B A Ψ env es (fun vs τ => Callee B f τ ∧ Sw B A (call f vs) Φ Ψ τ) τ) Ψ σ)
    (hp : es.all plainE = true := by with_unfolding_all rfl) : Sw B A (eval (.Call (.Name x np) es [] pos) env) Φ Ψ σ := fun h g d k O =>
  wpAny_Call_ofName (wpAny_mono (y h g d k O) (fun f s q => by
    obtain ⟨τ, O, e, hb, q⟩ := q
    obtain ⟨h, g, d, k, os⟩ := s
    cases e
    exact Sw.callWith hp hb (fun _ _ => rfl) q h g d k O) fun _ _ q => q)
-- a method of a machine's type
theorem Sw.e_Call_Method {o : Expr} {name : Str} {apos pos : Pos} {args : List Expr} {T id : String} {Φ : Value → SH → Prop} (pa : PlainAttrs T) (slot : Slot T name id) (hty : typeOf (.builtin id) = Pure.pure (.type "method_descriptor"))
    (y : Sw B A (eval o env) (fun ov τ => (∃ a P, ov = .ref a ∧ Cl.o a P ∈ τ ∧ ∀ ob, P ob → ob.cls = .type T ∧ ob.dict = none) ∧ Args B A Ψ env args (fun vs τ => Sw B A (call (.builtin id) (ov :: vs)) Φ Ψ τ) τ) Ψ σ)
    (hbase : attributeBase o name env (eval o env) = eval o env := by with_unfolding_all rfl)
    (hfew : ((backTo pos (starEach args env)).all (fun x => !x.1) && (backToKw pos (keywordEach [] env)).all (fun x => x.1.isSome)
      && decide (args.length + ([] : List Keyword).length + (if ([] : List Keyword).isEmpty then 0 else 1) < 30)) = true := by with_unfolding_all rfl)
    (hline : (apos.endLine == pos.line) = true := by with_unfolding_all rfl) (hp : args.all plainE = true := by with_unfolding_all rfl) : Sw B A (eval (.Call (.Attribute o name apos) args [] pos) env) Φ Ψ σ := fun h g d k O =>
  wpAny_Call_method hbase hfew hline pa slot hty (wpAny_mono (y h g d k O) (fun ov s q => by
    obtain ⟨τ, O, e, ⟨a, P, rfl, hm, hP⟩, q⟩ := q
    obtain ⟨h, g, d, k, os⟩ := s
    cases e
    obtain ⟨ob, ho, hp'⟩ := O.get hm
    refine ⟨⟨ob, ho, (hP ob hp').1⟩, fun b hb => by cases hb; exact ⟨ob, ho, (hP ob hp').2⟩, ?_⟩
    exact Sw.callWith (f := .builtin id) (first := [.ref a]) hp rfl (fun _ q => by cases q) (q.mono fun vs τ z => ⟨trivial, z⟩) h g d k O) fun _ _ q => q)
-- raise ValueError("...")
theorem Sw.raiseVE {np cpos pos : Pos} {es : List Expr} {Φ : Flow → SH → Prop} (hh : A.handled = none)
    (y : Sw B A (eval (.Name (Str.ofString "ValueError") np) env) (fun f τ => f = .type "ValueError" ∧ Args B A Ψ env es (fun vs τ => vs.length ≤ sizeLine ∧ ∀ e, Ψ (.ref e) (.o e (excP "ValueError" .none) :: τ)) τ) Ψ σ)
    (hp : es.all plainE = true := by with_unfolding_all rfl) :
    Sw B A (exec (.Raise (some (.Call (.Name (Str.ofString "ValueError") np) es [] cpos)) none pos) env) Φ Ψ σ := fun h g d k O => by
  refine wpAny_Raise_call F.excCall_ValueError F.excRaise_ValueError hh (backTo_any hp) (wpAny_mono (y h g d k O) (fun f s₁ h₁ => ?_) fun _ _ q => q)
  obtain ⟨τ, O1, eo, rfl, q⟩ := h₁
  obtain ⟨h1, g1, d1, k1, os1⟩ := s₁
  cases eo
  refine ⟨rfl, wpAny_mono (Sw.evalArgs (Φ := fun a τ => a.kw = [] ∧ a.pos.length ≤ sizeLine ∧ ∀ e, Ψ (.ref e) (.o e (excP "ValueError" .none) :: τ)) hp (q.mono fun vs τ q => ⟨rfl, q⟩) h1 g1 d1 k1 O1) (fun a s₂ h₂ => ?_) fun _ _ q => q⟩
  obtain ⟨τ, O2, eo, hk, hl, q⟩ := h₂
  obtain ⟨h2, g2, d2, k2, os2⟩ := s₂
  cases eo
  refine ⟨hk, hl, fun h' e hm => ⟨_, ?_, rfl, q e⟩⟩
  obtain ⟨t, he, hnt, ht⟩ := hm.there
  have O3 := O2.keeps hm.keeps
  refine ⟨O3.wf, O3.keep, fun c hc => ?_, fun a P hm' => ?_, ?_, O3.bare⟩
  · rcases List.mem_cons.mp hc with rfl | hc
    · exact ⟨_, he, rfl, _, _, rfl, rfl, rfl⟩
    · exact O3.at' c hc
  · rcases List.mem_cons.mp hm' with q | hm'
    · cases q
      cases z : B.G.get? e with
      | none => rfl
      | some o => have := O2.keep _ _ z; rw [hm.new] at this; cases this
    · exact O3.low a P hm'
  · rw [List.map_cons]
    refine List.nodup_cons.mpr ⟨fun hm' => ?_, O2.nodup⟩
    obtain ⟨c, hc, hk⟩ := List.mem_map.mp hm'
    have z := O2.at' c hc
    cases c with
    | o a P =>
      have hk' : @Eq Nat (2 * a) (2 * e) := hk
      have : @Eq Nat a e := by omega
      subst this
      obtain ⟨o, ho, _⟩ := z
      rw [hm.new] at ho; cases ho
    | g n st =>
      have hk' : @Eq Nat (2 * n + 1) (2 * e) := hk
      omega
end
end

-- E2
section
def Starts (gs : GenState) (c : Code) (t : Sem Fin) (fs : List Frame) : Prop := (gs = .fresh c ∧ t = denote table c ∧ fs = []) ∨ (∃ k l p cl, gs = .suspended k l c p fs cl ∧ t = k (.send .none))

def Subp (τ' τ : SH) : Prop := ∃ ρ, τ.Perm (τ' ++ ρ)
theorem Subp.refl (τ : SH) : Subp τ τ := ⟨[], by rw [List.append_nil]⟩
theorem Subp.of_perm {σ τ : SH} (p : τ.Perm σ) : Subp σ τ := ⟨[], by rw [List.append_nil]; exact p⟩
theorem Subp.trans {a b c : SH} (x : Subp a b) (y : Subp b c) : Subp a c := by
  obtain ⟨r, hr⟩ := x
  obtain ⟨q, hq⟩ := y
  exact ⟨r ++ q, hq.trans (by rw [← List.append_assoc]; exact hr.append_right q)⟩
theorem Subp.of_sub {a b : SH} (x : a.Sublist b) : Subp a b := by
  induction x with
  | slnil => exact .refl _
  | cons c _ ih => obtain ⟨r, hr⟩ := ih; exact ⟨c :: r, (List.Perm.cons c hr).trans List.perm_middle.symm⟩
  | cons_cons c _ ih => obtain ⟨r, hr⟩ := ih; exact ⟨r, List.Perm.cons c hr⟩
theorem Subp.sub {a b : SH} (x : Subp a b) : ∀ c ∈ a, c ∈ b := fun c hc => by
  obtain ⟨r, hr⟩ := x
  exact hr.mem_iff.mpr (List.mem_append_left _ hc)
open Classical in
noncomputable def one (c a : Cl) : Nat := if c = a then 1 else 0
noncomputable def cnt (c : Cl) : SH → Nat
  | [] => 0
  | a :: l => one c a + cnt c l
theorem cnt_nil (c : Cl) : cnt c [] = 0 := rfl
theorem cnt_cons (c a : Cl) (l : SH) : cnt c (a :: l) = one c a + cnt c l := rfl
theorem cnt_append (c : Cl) (l r : SH) : cnt c (l ++ r) = cnt c l + cnt c r := by
  induction l with
  | nil => rw [List.nil_append, cnt_nil]; omega
  | cons a l ih => rw [List.cons_append, cnt_cons, cnt_cons, ih]; omega
theorem cnt_mem {c : Cl} : ∀ {l : SH}, 0 < cnt c l → c ∈ l
  | [], h => absurd h (Nat.lt_irrefl _)
  | a :: l, h => by
    by_cases q : c = a
    · rw [q]; exact .head _
    · rw [cnt_cons, one, if_neg q, Nat.zero_add] at h
      exact .tail _ (cnt_mem h)
theorem Subp.of_cnt : ∀ {a b : SH}, (∀ c, cnt c a ≤ cnt c b) → Subp a b
  | [], b, _ => ⟨b, .refl _⟩
  | x :: a, b, h => by
    have h1 := h x
    rw [cnt_cons, one, if_pos rfl] at h1
    obtain ⟨s, t, rfl⟩ := List.append_of_mem (cnt_mem (c := x) (l := b) (by omega))
    obtain ⟨r, hr⟩ := Subp.of_cnt (a := a) (b := s ++ t) fun c => by
      have := h c
      rw [cnt_cons, cnt_append, cnt_cons] at this
      rw [cnt_append]
      omega
    exact ⟨r, List.perm_middle.trans (List.Perm.cons x hr)⟩
section
variable {B : Bx} {A : Around} {Ψ : Value → SH → Prop} {σ τ : SH} {env : Env} {c : Code} {t : Sem Fin} {fs : List Frame} {w : World} {G h h' : Heap} {g : Array GenState}

theorem Own.subp (O : Own w G h g τ) (hs : Subp σ τ) : Own w G h g σ := by
  obtain ⟨l, hp⟩ := hs
  exact (O.perm hp).sublist (List.sublist_append_left _ _)
theorem Sw.subp {α : Type} {t : Sem α} {Φ : α → SH → Prop} (x : Sw B A t Φ Ψ τ) (hp : Subp τ σ) : Sw B A t Φ Ψ σ := fun h g d k O => x h g d k (O.subp hp)
theorem Sg.subp {P : End → SH → Prop} (x : Sg B A c fs t P τ) (hp : Subp τ σ) : Sg B A c fs t P σ := fun h g d k O => x h g d k (O.subp hp)

theorem Sg.shrink {P : End → SH → Prop} (x : Sg B A c fs t (fun e τ => ∃ τ', Subp τ' τ ∧ P e τ') σ) : Sg B A c fs t P σ := fun h g d k O => (x h g d k O).mono fun e s q => by
  obtain ⟨τ, O, eo, τ', hs, q⟩ := q
  exact ⟨τ', O.subp hs, eo, q⟩
theorem Sw.shrink {α : Type} {t : Sem α} {Φ : α → SH → Prop} (x : Sw B A t (fun a τ => ∃ τ', Subp τ' τ ∧ Φ a τ') (fun a τ => ∃ τ', Subp τ' τ ∧ Ψ a τ') σ) : Sw B A t Φ Ψ σ := fun h g d k O => wpAny_mono (x h g d k O) (fun e s q => by
  obtain ⟨τ, O, eo, τ', hs, q⟩ := q
  exact ⟨τ', O.subp hs, eo, q⟩) fun e s q => by
  obtain ⟨τ, O, eo, τ', hs, q⟩ := q
  exact ⟨τ', O.subp hs, eo, q⟩

theorem isGen_of {q m : Nat} (m' : ∃ o, h.get? q = some o ∧ genP m o) : h.IsGen q m := by
  obtain ⟨o, ho, nm, qn, rfl⟩ := m'
  exact ⟨_, nm, qn, ho, rfl, rfl, rfl⟩
theorem Own.exc2 {h' : Heap} {x tp : Addr} {cls : String} {ob : Obj} (O : Own w G h g σ) (hk : ∀ b o, h.get? b = some o → h'.get? b = some o) (hn : h.get? x = none) (he : h'.get? x = some ob) (hp : excP cls .none ob) : Own w G h' g (.o x (excP cls .none) :: σ) := by
  have O3 := O.keeps hk
  refine ⟨O3.wf, O3.keep, fun c hc => ?_, fun a P hm' => ?_, ?_, O3.bare⟩
  · rcases List.mem_cons.mp hc with rfl | hc
    · exact ⟨_, he, hp⟩
    · exact O3.at' c hc
  · rcases List.mem_cons.mp hm' with q | hm'
    · cases q
      cases z : G.get? x with
      | none => rfl
      | some o => have := O.keep _ _ z; rw [hn] at this; cases this
    · exact O3.low a P hm'
  · rw [List.map_cons]
    refine List.nodup_cons.mpr ⟨fun hm' => ?_, O.nodup⟩
    obtain ⟨c, hc, hk⟩ := List.mem_map.mp hm'
    have z := O.at' c hc
    cases c with
    | o a P =>
      have hk' : @Eq Nat (2 * a) (2 * x) := hk
      have : @Eq Nat a x := by omega
      subst this
      obtain ⟨o, ho, _⟩ := z
      rw [hn] at ho; cases ho
    | g n st =>
      have hk' : @Eq Nat (2 * n + 1) (2 * x) := hk
      omega

-- a StopIteration of the machine's own
theorem Sw.newStop {Φ : Value → SH → Prop} (x : ∀ e, Φ (.ref e) (.o e (excP "StopIteration" .none) :: σ)) : Sw B A (newExc (.type "StopIteration") []) Φ Ψ σ := fun h g d k O => by
  simp only [newExc, newTuple]
  refine wpAny_bind (wpAny_newObj_type ?_ (by size_fits))
  refine wpAny_bind (m := firstArgMember _ _) (wpAny_of_eq (a := Value.none) (by first | rfl | (simp only [firstArgMember]; rfl)) ?_)
  refine wpAny_newObj_type ?_ (by size_fits)
  exact .mk (Own.exc2 (tp := 0) (h := h) O (fun b o hb => Heap.get?_push_of_some _ (Heap.get?_push_of_some _ hb)) (by
    cases z : h.get? _ with
    | none => rfl
    | some o => have := Heap.lt_size z; simp [Heap.push] at this; exact absurd this (Nat.not_lt.mpr (Nat.le_succ _)))
    (Heap.get?_push_size _ rfl) ⟨rfl, _, _, rfl, rfl, rfl⟩) (x _)
theorem Sw.raiseNew {α : Type} {e : Addr} {Φ : α → SH → Prop} (hh : A.handled = none) (x : Ψ (.ref e) σ) : Sw B A (raiseNew (.ref e)) Φ Ψ σ := fun h g d k O => by
  simp only [PySem.raiseNew]
  refine wpAny_bind (wpAny_handled ?_)
  rw [hh]
  exact wpAny_bind (wpAny_pure (wpAny_throw (.mk O x)))

def Woken (q m : Nat) (Φ : Value → SH → Prop) (Ψ : Value → SH → Prop) (e : End) (τ : SH) : Prop := ∃ τ', UpdG m .running e.genState τ τ' ∧ match e with
  | .susp v _ _ _ _ _ _ => Φ v τ'
  | .ret (.ok f) => retV f = .none ∧ ∀ x, Ψ (.ref x) (.o x (excP "StopIteration" .none) :: τ')
  | .ret (.error e) => ∃ ea T, e = .ref ea ∧ Cl.o q (genP m) ∈ τ' ∧ Cl.o ea (excP "ValueError" T) ∈ τ' ∧ Ψ e τ'

theorem woken {q m : Nat} {Φ : Value → SH → Prop} {e : End} (hh : A.handled = none) (x : Woken q m Φ Ψ e τ) : ∃ τ', UpdG m .running e.genState τ τ' ∧ Sw B A (match e.result with
      | .yielded v => ret v
      | .returned v => do
        if v == .none then raiseNew (← newExc (.type "StopIteration") [])
        PySem.rule "generator.return-value"; MonadExcept.throw (← newExc (.type "StopIteration") [v])
      | .raised e => do
        Builtin.Generator.genLeft (.ref q) e
      | .running => do PySem.rule "generator.already-executing"; raiseError "ValueError" "generator already executing"
      | .justStarted => do PySem.rule "generator.send-to-fresh"; raiseError "TypeError" "can't send non-None value to a just-started generator"
      | .finished => do raiseNew (← newExc (.type "StopIteration") [])) (fun fin τ => ∃ v, fin = .done (.ret v) ∧ Φ v τ) Ψ τ' := by
  obtain ⟨τ', u', q⟩ := x
  refine ⟨τ', u', ?_⟩
  cases e with
  | susp v _ _ _ _ _ _ => exact Sw.pure ⟨v, rfl, q⟩
  | ret r =>
    cases r with
    | ok f =>
      obtain ⟨q1, q2⟩ := q
      have e1 : End.result (.ret (.ok f)) = .returned .none := by
        show GenResult.returned (retV f) = _
        rw [q1]
      rw [e1]
      exact Sw.bind (Sw.newStop fun x => Sw.bind (Sw.raiseNew hh (q2 x)))
    | error e =>
      obtain ⟨ea, T, rfl, m1, m2, q⟩ := q
      show Sw B A (Builtin.Generator.genLeft (.ref _) (.ref ea)) _ _ _
      intro h g d k O
      obtain ⟨oq, hoq, nm, qn, rfl⟩ := O.get m1
      obtain ⟨oe, hoe, hc, _⟩ := O.get m2
      unfold Builtin.Generator.genLeft Builtin.Generator.madeByALambda Builtin.Generator.genEscaped
      refine wpAny_bind (wpAny_bind (wpAny_load hoq (wpAny_pure ?_)))
      have hs : isSubtype (.type "ValueError") (.type "StopIteration") = Pure.pure false := by rw [isSubtype_type]; kernel_rfl
      refine wpAny_bind (wpAny_isInstance (T := "ValueError") (b := false) ⟨oe, hoe, hc⟩ hs ?_)
      rw [Bool.and_false, if_neg Bool.false_ne_true]
      refine wpAny_bind (wpAny_isInstance (T := "ValueError") (b := false) ⟨oe, hoe, hc⟩ hs ?_)
      rw [Bool.not_false, if_pos rfl]
      exact wpAny_bind (wpAny_throw (.mk O q))

theorem Sw.genWake {q m : Nat} {gs : GenState} {Φ : Value → SH → Prop} (hst : Starts gs c t fs) (hh : A.handled = none) (hd : A.depth < recursionLimit) (mq : Cl.o q (genP m) ∈ σ) (u : UpdG m gs .running σ τ)
    (x : Sg B A c fs t (Woken q m Φ Ψ) τ) : Sw B A (Builtin.Generator.genWake (.ref q) (.send .none)) (fun fin τ => ∃ v, fin = .done (.ret v) ∧ Φ v τ) Ψ σ := fun h g d k O => by
  have hg := isGen_of (O.get mq)
  have hgs : (⟨h, g, d, k, B.os⟩ : Shared).gens[m]? = some gs := O.gen (by obtain ⟨p, q, rfl, _⟩ := u.split; exact List.mem_append_right _ (.head _))
  unfold Builtin.Generator.genWake
  refine wpAny_bind (wpAny_holding (wpAny_genNumber hg (wpAny_bind (wpAny_genState hgs ?_))))
  rcases hst with ⟨rfl, rfl, rfl⟩ | ⟨k₀, l₀, p₀, cl, rfl, rfl⟩
  all_goals
    refine wpAny_bind (wpAny_roomToWake O.noLimit hd ?_)
    show wpAny _ _ (.resume m (.send .none) [] _) _ _ _
  · refine Sw.wake (.inl ⟨rfl, rfl, rfl⟩) u (x.mono fun e τ q _ => ?_) h g d k O
    exact woken hh q
  · refine Sw.wake (.inr ⟨_, _, _, _, rfl, rfl⟩) u (x.mono fun e τ q _ => ?_) h g d k O
    exact woken hh q
theorem Sw.gen_next {q m : Nat} {gs : GenState} {Φ : Value → SH → Prop} (hst : Starts gs c t fs) (hh : A.handled = none) (hd : A.depth < recursionLimit) (mq : Cl.o q (genP m) ∈ σ) (u : UpdG m gs .running σ τ)
    (x : Sg B A.in1 c fs t (Woken q m Φ Ψ) τ) : Sw B A (call (.builtin "generator.__next__") [.ref q]) Φ Ψ σ := fun h g d k O =>
  wpAny_call_entry slot_gen_next (isGen_of (O.get mq)).typeIs entry_gen_next (Sw.genWake (A := A.in1) hst hh hd mq u x h g d k O |> fun z => wpAny_mono z (fun fin s q => by
    obtain ⟨τ, O, e, v, rfl, q⟩ := q
    exact ⟨v, rfl, τ, O, e, q⟩) fun _ _ q => q) (args_gen_next _)

def Nexts (q m : Nat) (Φ : Option Value → SH → Prop) (Ψ : Value → SH → Prop) (e : End) (τ : SH) : Prop := ∃ τ', UpdG m .running e.genState τ τ' ∧ match e with
  | .susp v _ _ _ _ _ _ => Φ (some v) τ'
  | .ret (.ok f) => retV f = .none ∧ Φ none τ'
  | .ret (.error e) => ∃ ea T, e = .ref ea ∧ Cl.o q (genP m) ∈ τ' ∧ Cl.o ea (excP "ValueError" T) ∈ τ' ∧ Ψ e τ'
theorem Sw.next_gen {q m : Nat} {gs : GenState} {Φ : Option Value → SH → Prop} (hst : Starts gs c t fs) (hh : A.handled = none) (hd : A.depth < recursionLimit) (mq : Cl.o q (genP m) ∈ σ) (u : UpdG m gs .running σ τ)
    (x : Sg B A.in1 c fs t (Nexts q m Φ Ψ) τ) : Sw B A (pyNext (.ref q)) Φ Ψ σ := fun h g d k O => by
  unfold pyNext
  refine wpAny_bind (wpAny_attempt (wpAny_callSpecial?_slot (name := Str.ofString "__next__") (isGen_of (O.get mq)).typeIs slot_gen_next ?_))
  refine wpAny_mono (Sw.gen_next (Φ := fun v => Φ (some v)) (Ψ := fun e τ => (∃ x τ0, e = .ref x ∧ τ = .o x (excP "StopIteration" .none) :: τ0 ∧ Φ none τ0) ∨ (∃ x T, e = .ref x ∧ Cl.o x (excP "ValueError" T) ∈ τ ∧ Ψ e τ)) hst hh hd mq u (x.mono fun e τ q => ?_) h g d k O) (fun v s q => ?_) fun v s q => ?_
  · obtain ⟨τ', u', q⟩ := q
    refine ⟨τ', u', ?_⟩
    cases e with
    | susp v _ _ _ _ _ _ => exact q
    | ret r =>
      cases r with
      | ok f => exact ⟨q.1, fun x => .inl ⟨x, τ', rfl, rfl, q.2⟩⟩
      | error e => obtain ⟨ea, T, rfl, m1, m2, q⟩ := q; exact ⟨ea, T, rfl, m1, m2, .inr ⟨ea, T, rfl, m2, q⟩⟩
  · exact wpAny_pure q
  · obtain ⟨τ, O, e, q⟩ := q
    obtain ⟨h, g, d, k, os⟩ := s
    cases e
    rcases q with ⟨x, τ0, rfl, rfl, q⟩ | ⟨x, T, rfl, hm, q⟩
    · obtain ⟨o, ho, hc, _⟩ := O.get (.head _)
      refine wpAny_bind (wpAny_isInstance (T := "StopIteration") (b := true) ⟨o, ho, hc⟩ isSubtype_stop ?_)
      exact wpAny_pure (.mk (O.sublist (.cons _ (.refl _))) q)
    · obtain ⟨o, ho, hc, _⟩ := O.get hm
      refine wpAny_bind (wpAny_isInstance (T := "ValueError") (b := false) ⟨o, ho, hc⟩ (by rw [isSubtype_type]; kernel_rfl) ?_)
      exact wpAny_throw (.mk O q)
theorem Sw.iter_gen {q m : Nat} {Φ : Value → SH → Prop} (mq : Cl.o q (genP m) ∈ σ) (x : Φ (.ref q) σ) : Sw B A (pyIter (.ref q)) Φ Ψ σ := fun h g d k O => wpAny_pyIter_gen (isGen_of (O.get mq)) (.mk O x)

-- what is asked of the ground on which a generator is woken
structure Ok (A : Around) (l : List Env) (n : Nat) (R : SH) : Prop where
  hand : A.handled = none
  fr : A.frames = some l
  frs : Frs l R
  room : Roomy A n
theorem Ok.in1 {l : List Env} {n : Nat} {R : SH} (x : Ok A l (n + 1) R) : Ok A.in1 l n R := ⟨x.hand, x.fr, x.frs, by have := x.room.depth; show A.depth + n ≤ _; omega, by have := x.room.units; show A.units + 1 + 20 * n ≤ _; omega⟩

-- a generator's word: what it tells, piece by piece, and its end. S: what all share and may grow
def Emits (B : Bx) (I : SH → Prop) (T : SH) (n : Nat) (ring : Bool) (fin : SH) : List Str → Code → Sem Fin → List Frame → SH → Prop
  | [], c, t, fs, σ => ∀ A l R S, Ok A l n R → (∀ x ∈ T, x ∈ R) → I S → Sg B A c fs t (fun e τ => ∃ S', I S' ∧ match ring with
      | false => ∃ f, e = .ret (.ok f) ∧ retV f = .none ∧ Subp (fin ++ (S' ++ R)) τ
      | true => ∃ x T', e = .ret (.error (.ref x)) ∧ Subp (.o x (excP "ValueError" (.ref T')) :: .o T' (tbP .none) :: (S' ++ R)) τ) (σ ++ (S ++ R))
  | p :: ps, c, t, fs, σ => ∀ A l R S, Ok A l n R → (∀ x ∈ T, x ∈ R) → I S → Sg B A c fs t (fun e τ => ∃ S', I S' ∧ ∃ tok k l' c' p' fs' σ', e = .susp (.str p tok) false l' k c' p' fs' ∧ Subp (σ' ++ (S' ++ R)) τ ∧ Emits B I T n ring fin ps c' (k (.send .none)) fs' σ') (σ ++ (S ++ R))
def Post (B : Bx) (I : SH → Prop) (T : SH) (n : Nat) (ring : Bool) (fin R : SH) : List Str → End → SH → Prop
  | [], e, τ => ∃ S', I S' ∧ match ring with
      | false => ∃ f, e = .ret (.ok f) ∧ retV f = .none ∧ Subp (fin ++ (S' ++ R)) τ
      | true => ∃ x T', e = .ret (.error (.ref x)) ∧ Subp (.o x (excP "ValueError" (.ref T')) :: .o T' (tbP .none) :: (S' ++ R)) τ
  | p :: ps, e, τ => ∃ S', I S' ∧ ∃ tok k l' c' p' fs' σ', e = .susp (.str p tok) false l' k c' p' fs' ∧ Subp (σ' ++ (S' ++ R)) τ ∧ Emits B I T n ring fin ps c' (k (.send .none)) fs' σ'
theorem Emits.iff {I : SH → Prop} {T fin : SH} {n : Nat} {ring : Bool} {ps : List Str} : Emits B I T n ring fin ps c t fs σ ↔ ∀ A l R S, Ok A l n R → (∀ x ∈ T, x ∈ R) → I S → Sg B A c fs t (Post B I T n ring fin R ps) (σ ++ (S ++ R)) := by
  cases ps <;> exact Iff.rfl
-- what stands in the store of a generator that is to tell ps still
def Pend (B : Bx) (I : SH → Prop) (T : SH) (n : Nat) (ring : Bool) (fin : SH) (ps : List Str) (gs : GenState) (σ : SH) : Prop := ∃ c t fs, Starts gs c t fs ∧ Emits B I T n ring fin ps c t fs σ

def Tell (B : Bx) (I : SH → Prop) (T : SH) (n : Nat) (ring : Bool) (fin R : SH) (m : Nat) (Φ : Option Value → SH → Prop) (Ψ : Value → SH → Prop) : List Str → Prop
  | p :: ps => ∀ tok gs' σ' S', I S' → Pend B I T n ring fin ps gs' σ' → Φ (some (.str p tok)) (.g m gs' :: (σ' ++ (S' ++ R)))
  | [] => match ring with
    | false => ∀ S', I S' → Φ none (fin ++ (S' ++ R))
    | true => ∀ x T' S', I S' → Ψ (.ref x) (.o x (excP "ValueError" (.ref T')) :: .o T' (tbP .none) :: (S' ++ R))
theorem Pend.wake {I : SH → Prop} {T fin R S : SH} {n q m : Nat} {ring : Bool} {l : List Env} {ps : List Str} {Φ : Option Value → SH → Prop} {Ψ : Value → SH → Prop} {W : End → SH → Prop} (hA : Ok A l n R) (mq : Cl.o q (genP m) ∈ R) (hT : ∀ x ∈ T, x ∈ R) (hI : I S)
    (he : Emits B I T n ring fin ps c t fs σ)
    (x : Tell B I T n ring fin R m Φ Ψ ps)
    (hW : ∀ e τ, Nexts q m (fun v τ => ∃ τ', Subp τ' τ ∧ Φ v τ') (fun v τ => ∃ τ', Subp τ' τ ∧ Ψ v τ') e τ → W e τ) : Sg B A c fs t W (.g m .running :: (σ ++ (S ++ R))) := by
  have hA' : Ok A l n (.g m .running :: R) := ⟨hA.hand, hA.fr, hA.frs.sub fun c hc => .tail _ hc, hA.room⟩
  have hT' : ∀ x ∈ T, x ∈ Cl.g m .running :: R := fun x hx => .tail _ (hT x hx)
  have pm : ∀ (a b : SH), (a ++ (b ++ Cl.g m .running :: R)).Perm (Cl.g m .running :: (a ++ (b ++ R))) := fun a b => by
    rw [← List.append_assoc]
    refine List.perm_middle.trans ?_
    rw [← List.append_assoc]
  have hsub : Subp (σ ++ (S ++ Cl.g m .running :: R)) (Cl.g m .running :: (σ ++ (S ++ R))) := .of_perm (pm σ S).symm
  have mem : ∀ (S' : SH), Cl.o q (genP m) ∈ S' ++ R := fun S' => List.mem_append_right _ mq
  refine Sg.mono ?_ hW
  cases ps with
  | nil =>
    refine Sg.shrink ?_
    refine (he A l _ S hA' hT' hI).subp hsub |>.mono fun e τ q => ?_
    cases ring with
    | false =>
      obtain ⟨S', hI', f, rfl, hf, hs⟩ := q
      refine ⟨_, (Subp.of_perm (pm fin S')).trans hs, _, .head, hf, fin ++ (S' ++ R), .of_sub (.cons _ (.refl _)), x S' hI'⟩
    | true =>
      obtain ⟨S', hI', y, T', rfl, hs⟩ := q
      refine ⟨.o y (excP "ValueError" (.ref T')) :: .o T' (tbP .none) :: .g m .running :: (S' ++ R), .trans (.of_perm (.cons _ (.cons _ (pm [] S')))) hs, _, .tail (.tail .head), y, _, rfl, .tail _ (.tail _ (.tail _ (mem S'))), .head _, _, .of_sub (.cons_cons _ (.cons_cons _ (.cons _ (.refl _)))), x y T' S' hI'⟩
  | cons p ps =>
    refine Sg.shrink ?_
    refine (he A l _ S hA' hT' hI).subp hsub |>.mono fun e τ q => ?_
    obtain ⟨S', hI', tok, k, l', c', p', fs', σ', rfl, hs, he'⟩ := q
    refine ⟨_, (Subp.of_perm (pm σ' S')).trans hs, _, .head, _, .refl _, ?_⟩
    exact x tok _ σ' S' hI' ⟨c', _, fs', .inr ⟨k, l', p', _, rfl, rfl⟩, he'⟩

theorem Sw.next_pend {I : SH → Prop} {T fin R S : SH} {n q m : Nat} {ring : Bool} {l : List Env} {ps : List Str} {gs : GenState} {Φ : Option Value → SH → Prop} (hp : Pend B I T n ring fin ps gs σ) (hA : Ok A l (n + 1) R) (mq : Cl.o q (genP m) ∈ R) (hT : ∀ x ∈ T, x ∈ R) (hI : I S)
    (x : Tell B I T n ring fin R m Φ Ψ ps) : Sw B A (pyNext (.ref q)) Φ Ψ (.g m gs :: (σ ++ (S ++ R))) := by
  obtain ⟨c, t, fs, hst, he⟩ := hp
  refine Sw.shrink (Sw.next_gen hst hA.hand hA.room.lt (.tail _ (List.mem_append_right _ (List.mem_append_right _ mq))) .head ?_)
  exact Pend.wake hA.in1 mq hT hI he x fun e τ q => q
end
end

-- E3
section
theorem entry_next : entryFor table "next" = some Builtin.«next» := entryFor_of_fast (by kernel_rfl)
section
variable {B : Bx} {A : Around} {Ψ : Value → SH → Prop} {σ τ : SH} {env : Env} {c : Code} {t : Sem Fin} {fs : List Frame} {w : World} {G h h' : Heap} {g : Array GenState}
theorem Sw.call_next {q m : Nat} {gs : GenState} {Φ : Value → SH → Prop} (hst : Starts gs c t fs) (hh : A.handled = none) (hd : A.depth < recursionLimit) (mq : Cl.o q (genP m) ∈ σ) (u : UpdG m gs .running σ τ)
    (x : Sg B A.in1.in1 c fs t (Woken q m Φ Ψ) τ) : Sw B A (call (.builtin "next") [.ref q]) Φ Ψ σ := fun h g d k O => by
  refine call_function_entry (by kernel_rfl) (by decide +kernel) entry_next (by unfold argsOk; kernel_rfl) ?_
  show wpAny _ _ (Builtin.«next» _) _ _ _
  unfold Builtin.«next»
  have hT := (isGen_of (O.get mq)).typeIs (s := ⟨h, g, d, k, B.os⟩)
  refine wpAny_bind (m := someArgs "next" 1 2 ⟨[.ref q], []⟩) (wpAny_of_eq (a := [.ref q]) rfl ?_)
  simp only [List.headD]
  refine wpAny_bind (wpAny_specialOf hT slot_gen_next.lookup ?_)
  rw [if_neg (show ¬ ((some (Value.builtin "generator.__next__")).isNone = true) from Bool.false_ne_true)]
  refine wpAny_bind (wpAny_callSpecial?_slot (name := Str.ofString "__next__") hT slot_gen_next ?_)
  refine wpAny_mono (Sw.gen_next (A := A.in1) hst hh hd mq u x h g d k O) (fun v s q => ?_) fun _ _ q => q
  exact wpAny_pure ⟨v, rfl, q⟩

theorem Sw.call_next_pend {I : SH → Prop} {T fin R S : SH} {n q m : Nat} {ring : Bool} {l : List Env} {ps : List Str} {gs : GenState} {Φ : Value → SH → Prop} (hp : Pend B I T n ring fin ps gs σ) (hA : Ok A l (n + 1) R) (mq : Cl.o q (genP m) ∈ R) (hT : ∀ x ∈ T, x ∈ R) (hI : I S)
    (x : Tell B I T n ring fin R m (fun v τ => match v with | some v => Φ v τ | none => ∀ x, Ψ (.ref x) (.o x (excP "StopIteration" .none) :: τ)) Ψ ps) : Sw B A (call (.builtin "next") [.ref q]) Φ Ψ (.g m gs :: (σ ++ (S ++ R))) := by
  obtain ⟨c, t, fs, hst, he⟩ := hp
  refine Sw.shrink (Sw.call_next hst hA.hand hA.room.lt (.tail _ (List.mem_append_right _ (List.mem_append_right _ mq))) .head ?_)
  refine Pend.wake (Φ := fun v τ => match v with | some v => Φ v τ | none => ∀ x, Ψ (.ref x) (.o x (excP "StopIteration" .none) :: τ)) (Ψ := Ψ) ⟨hA.hand, hA.fr, hA.frs, ⟨hA.in1.room.depth, by have := hA.room.units; show A.units + 1 + 1 + 20 * n ≤ _; omega⟩⟩ mq hT hI he x fun e τ q => ?_
  obtain ⟨τ', u, q⟩ := q
  refine ⟨τ', u, ?_⟩
  cases e with
  | susp v _ _ _ _ _ _ => exact q
  | ret r =>
    cases r with
    | ok f =>
      obtain ⟨hf, τ'', hs, q⟩ := q
      obtain ⟨ρ, hp⟩ := hs
      exact ⟨hf, fun y => ⟨_, ⟨ρ, List.Perm.cons _ hp⟩, q y⟩⟩
    | error e => exact q

theorem Emits.start {I : SH → Prop} {T fin : SH} {n : Nat} {ring : Bool} {ps : List Str} {body : List Stmt}
    (x : Emits B I T n ring fin ps (.func body env) ((execs body env).wrap funK (funE env) id id) [] σ) : Emits B I T n ring fin ps (.func body env) (denote table (.func body env)) [] σ :=
  Emits.iff.mpr fun A l R S hA hT hI => Sg.func (Emits.iff.mp x A l R S hA hT hI)
theorem Emits.swap {I : SH → Prop} {T fin : SH} {n : Nat} {ring : Bool} {ps : List Str} {t' : Sem Fin} (f : ∀ A' P' τ', Sg B A' c fs t P' τ' → Sg B A' c fs t' P' τ') (x : Emits B I T n ring fin ps c t fs σ) : Emits B I T n ring fin ps c t' fs σ :=
  Emits.iff.mpr fun A l R S hA hT hI => f _ _ _ (Emits.iff.mp x A l R S hA hT hI)
-- a piece told by a statement of the generator's body, then the rest
theorem Sg.tell {I : SH → Prop} {T fin R : SH} {n : Nat} {ring : Bool} {p : Str} {ps : List Str} {e : Expr} {ypos pos : Pos} {K : Flow → Sem Fin} {H : Value → Sem Fin} (hfs : splitAtGen fs = none) (hfg : fs.any Frame.guarded = false)
    (x : Sw B (A.over c fs) (eval e env) (fun v τ => ∃ tok σ' S', v = .str p tok ∧ I S' ∧ Subp (σ' ++ (S' ++ R)) τ ∧ Emits B I T n ring fin ps c (K .next) fs σ') NoE σ)
    (hco : env.scope.isCoroutine = false := by with_unfolding_all rfl) (hi : interactive env = false := by with_unfolding_all rfl) :
    Sg B A c fs ((exec (.Expr (.Yield (some e) ypos) pos) env).wrap K H id id) (Post B I T n ring fin R (p :: ps)) σ := by
  refine Sg.Yield hfs hfg (x.mono (fun v τ q kk p' f => ?_) fun _ _ q => q.elim) hco hi
  obtain ⟨tok, σ', S', rfl, hI, hs, he⟩ := q
  exact ⟨S', hI, tok, kk, [], c, p', fs, σ', rfl, hs, he.swap f⟩
end
end

-- E4
section
local macro_rules | `(tactic| walk_at "subp") => `(tactic| (refine Subp.of_cnt fun _ => ?_; simp only [cnt_append, cnt_cons, cnt_nil]; omega))

section
variable {B : Bx} {A : Around} {Ψ : Value → SH → Prop} {σ τ : SH} {env : Env} {c : Code} {t : Sem Fin} {fs : List Frame} {P : End → SH → Prop} {K : Flow → Sem Fin} {H : Value → Sem Fin}
  {e L T' : Addr} {cls : String} {l : List Env} {target : Expr} {it : Value} {body : List Stmt} {p : Pos}

theorem Sw.field1 {Φ : Value → SH → Prop} {tb : Value} (x : Φ tb (.o e (excP cls tb) :: σ)) : Sw B A (field (.ref e) 1) Φ Ψ (.o e (excP cls tb) :: σ) := fun h g d k O => by
  obtain ⟨oe, he, hc, vs, a0, hd, h0, h1⟩ := O.get (.head _)
  exact wpAny_field he hd h1 (.mk O x)
-- an exception passes out of a for of a generator's body
theorem Sg.forPass {fl : Value} (hf : env.frame = some L) (x : Sg B A c fs (H (.ref e)) P (.o e (excP cls (.ref T')) :: .o T' (tbP (rawInt L)) :: σ)) :
    Sg B A c fs (forK env K H (.error (.ref e))) P (.o e (excP cls (.ref T')) :: .o T' (tbP fl) :: σ) := by
  unfold forK
  refine Sg.wrap (Sw.onRaise (Sw.throw ?_))
  refine Sw.bind (Sw.field1 ?_)
  rw [if_neg (show ¬ ((Value.ref T' == Value.none) = true) from by simp)]
  rw [hf]
  exact Sw.flight (fr := some L) x
theorem Sg.forOut (hf : env.frame = some L) (hfr : (A.over c fs).frames = some (env :: l)) (F : Frs (env :: l) σ)
    (x : ∀ T', Sg B A c fs (H (.ref e)) P (.o e (excP cls (.ref T')) :: .o T' (tbP (rawInt L)) :: σ)) :
    Sg B A (.forLoop target it body [] env) (forF env K H c p :: fs) (forE env (.ref e)) P (.o e (excP cls (.ref T')) :: .o T' (tbP .none) :: σ) := by
  unfold forE
  refine Sg.wrap ?_
  rw [over_for]
  refine Sw.bind (Sw.note_next hfr F hf fun T => Sw.lotGoes ?_)
  exact Sg.pop (r := .error (.ref e)) (Sg.forPass hf (x T))
theorem Sg.forOutHeld (hf : env.frame = some L)
    (x : Sg B A c fs (H (.ref e)) P (.o e (excP cls (.ref T')) :: .o T' (tbP (rawInt L)) :: σ)) :
    Sg B A (.forLoop target it body [] env) (forF env K H c p :: fs) (forE env (.ref e)) P (.o e (excP cls (.ref T')) :: .o T' (tbP (rawInt L)) :: σ) := by
  unfold forE
  refine Sg.wrap ?_
  rw [over_for]
  refine Sw.bind (Sw.note_again hf (Sw.lotGoes ?_))
  exact Sg.pop (r := .error (.ref e)) (Sg.forPass hf x)
-- out of the whole body
theorem Sg.funFirst {fs0 : List Frame} (hf : env.frame = some L) (hfr : (A.over (.func body env) []).frames = some (env :: l)) (F : Frs (env :: l) σ)
    (x : ∀ T', P (.ret (.error (.ref e))) (.o e (excP cls (.ref T')) :: .o T' (tbP .none) :: σ)) : Sg B A (.func body env) [] (funE env (.ref e)) P (.o e (excP cls .none) :: σ) := by
  unfold funE
  exact Sg.wrap (Sw.leaving_first hfr F hf fun T => Sg.end_ (r := .error (.ref e)) (x T))
theorem Sg.funHeld (hf : env.frame = some L)
    (x : P (.ret (.error (.ref e))) (.o e (excP cls (.ref T')) :: .o T' (tbP .none) :: σ)) : Sg B A (.func body env) [] (funE env (.ref e)) P (.o e (excP cls (.ref T')) :: .o T' (tbP (rawInt L)) :: σ) := by
  unfold funE
  exact Sg.wrap (Sw.leaving_again hf (Sg.end_ (r := .error (.ref e)) x))

theorem split_forF (h : splitAtGen fs = none) : splitAtGen (forF env K H c p :: fs) = none := by
  simp [splitAtGen, forF, h]
theorem guard_forF (h : fs.any Frame.guarded = false) : (forF env K H c p :: fs).any Frame.guarded = false := by
  simp only [List.any_cons, h, Bool.or_false]; rfl
theorem Ok.deeper {n : Nat} {R : SH} {ks : List Str} {vs : List (Option Value)} (x : Ok A l (n + 1) R) (hk : env.scope.kind ≠ .module) (hf : env.frame = some L) (hs : ∀ c ∈ R, c ∈ σ) (m : Cl.o L (frameP ks vs) ∈ σ) : Ok (A.deeper env) (env :: l) n σ :=
  ⟨x.hand, Around.frames_deeper x.fr, (x.frs.sub hs).cons hk hf m, by have := x.room.depth; show A.depth + 1 + n ≤ _; omega, by have := x.room.units; show A.units + 3 + 20 * n ≤ _; omega⟩

-- «for chunk in chunks: yield chunk»
theorem Sg.delegate {I : SH → Prop} {T fin fin1 σx : SH} {n n1 q m : Nat} {ring ring1 : Bool} {ps2 : List Str} {ks fs' : List Str} {vf : Option Value → List (Option Value)} {x : Str} {xp yp yp' pp : Pos}
    (hov : ∀ A : Around, A.over c fs = A.deeper env) (hfs : splitAtGen fs = none) (hfg : fs.any Frame.guarded = false) (E : EnvOk env ks fs') (hl : env.frame = some env.locals)
    (hput : ∀ u v, NPut x v ks (vf u) (vf (some v))) (hat : ∀ v, NAt x v ks (vf (some v))) (hn : n1 + 2 ≤ n)
    (hco : env.scope.isCoroutine = false) (hi : interactive env = false)
    (rest : ring1 = false → ∀ u A l R S, Ok A l n R → (∀ x ∈ T, x ∈ R) → I S → Sg B A c fs (K .next) (Post B I T n ring fin R ps2) (.o env.locals (frameP ks (vf u)) :: (fin1 ++ (σx ++ (S ++ R)))))
    (err : ring1 = true → ps2 = [] ∧ ∀ u e T' A l R S, Ok A l n R → (∀ x ∈ T, x ∈ R) → I S → Sg B A c fs (H (.ref e)) (Post B I T n ring fin R []) (.o e (excP "ValueError" (.ref T')) :: .o T' (tbP (rawInt env.locals)) :: .o env.locals (frameP ks (vf u)) :: (σx ++ (S ++ R)))) :
    ∀ (ps1 : List Str) gs σi u, Pend B I T n1 ring1 fin1 ps1 gs σi → ∀ A l R S p, Ok A l n R → (∀ x ∈ T, x ∈ R) → I S →
      Sg B A (.forLoop (.Name x xp) (.ref q) [.Expr (.Yield (some (.Name x yp)) yp') pp] [] env) (forF env K H c p :: fs) (denote table (.forLoop (.Name x xp) (.ref q) [.Expr (.Yield (some (.Name x yp)) yp') pp] [] env))
        (Post B I T n ring fin R (ps1 ++ ps2)) (.o env.locals (frameP ks (vf u)) :: .o q (genP m) :: .g m gs :: (σi ++ (σx ++ (S ++ R)))) := by
  have hk : env.scope.kind ≠ .module := by rw [E.kind]; decide
  intro ps1
  induction ps1 with
  | nil =>
    intro gs σi u hp A l R S p hA hT hI
    refine Sg.for1 ?_
    rw [hov]
    have hA1 : Ok (A.deeper env) (env :: l) (n1 + 1) (.o env.locals (frameP ks (vf u)) :: .o q (genP m) :: (σx ++ R)) :=
      Ok.deeper (n := n1 + 1) ⟨hA.hand, hA.fr, hA.frs, by have := hA.room.depth; omega, by have := hA.room.units; omega⟩ hk hl (fun c hc => .tail _ (.tail _ (List.mem_append_right _ hc))) (.head _)
    have hT1 : ∀ x ∈ T, x ∈ Cl.o env.locals (frameP ks (vf u)) :: .o q (genP m) :: (σx ++ R) := fun x hx => .tail _ (.tail _ (List.mem_append_right _ (hT x hx)))
    refine Sw.shrink (Sw.subp (Sw.next_pend hp hA1 (.tail _ (.head _)) hT1 hI ?_) (by walk_at "subp"))
    cases ring1 with
    | false =>
      intro S' hI'
      refine ⟨_, ?_, rest rfl u A l R S' hA hT hI'⟩
      walk_at "subp"
    | true =>
      obtain ⟨rfl, err'⟩ := err rfl
      intro e T' S' hI'
      refine ⟨.o e (excP "ValueError" (.ref T')) :: .o T' (tbP .none) :: .o env.locals (frameP ks (vf u)) :: (σx ++ (S' ++ R)), ?_, ?_⟩
      · walk_at "subp"
      · refine Sg.forOut hl ((hov A) ▸ hA1.fr) ?_ fun T2 => err' u e T2 A l R S' hA hT hI'
        exact Frs.cons (hA.frs.sub fun c hc => .tail _ (List.mem_append_right _ (List.mem_append_right _ hc))) hk hl (.head _)
  | cons p1 ps1 ih =>
    intro gs σi u hp A l R S p hA hT hI
    refine Sg.for1 ?_
    rw [hov]
    have hA1 : Ok (A.deeper env) (env :: l) (n1 + 1) (.o env.locals (frameP ks (vf u)) :: .o q (genP m) :: (σx ++ R)) :=
      Ok.deeper (n := n1 + 1) ⟨hA.hand, hA.fr, hA.frs, by have := hA.room.depth; omega, by have := hA.room.units; omega⟩ hk hl (fun c hc => .tail _ (.tail _ (List.mem_append_right _ hc))) (.head _)
    have hT1 : ∀ x ∈ T, x ∈ Cl.o env.locals (frameP ks (vf u)) :: .o q (genP m) :: (σx ++ R) := fun x hx => .tail _ (.tail _ (List.mem_append_right _ (hT x hx)))
    refine Sw.shrink (Sw.subp (Sw.next_pend hp hA1 (.tail _ (.head _)) hT1 hI ?_) (by walk_at "subp"))
    intro tok gs' σ' S' hI' hp'
    refine ⟨.o env.locals (frameP ks (vf u)) :: .o q (genP m) :: .g m gs' :: (σ' ++ (σx ++ (S' ++ R))), by walk_at "subp", ?_⟩
    refine Sw.pure (Sw.assign_Name (Sw.st E (hput u _) ?_))
    refine Sg.cons (Sg.tell (split_forF hfs) (guard_forF hfg) ?_ hco hi)
    rw [over_for, hov]
    refine Sw.ld E (hat _) ?_
    refine ⟨tok, .o env.locals (frameP ks (vf (some (.str p1 tok)))) :: .o q (genP m) :: .g m gs' :: (σ' ++ σx), S', rfl, hI', by walk_at "subp", ?_⟩
    refine Emits.iff.mpr fun A l R S hA hT hI => ?_
    refine Sg.nil (Sg.again rfl ?_)
    exact (ih gs' σ' (some (.str p1 tok)) hp' A l R S p hA hT hI).subp (by walk_at "subp")
end
end

-- F0
section
def eqP (x : Obj) (o : Obj) : Prop := o = x
def codeP (qual : Str) (o : Obj) : Prop := ∃ vs t, o.data = .fields vs ∧ vs[1]? = some (.str qual t)

section
variable {B : Bx} {A : Around} {Ψ : Value → SH → Prop} {σ : SH} {τ : Addr → SH} {env : Env} {w : World} {G h h' : Heap} {g : Array GenState}
theorem Own.alloc {τ : SH} {a : Addr} {o : Obj} {P : Obj → Prop} (O : Own w G h g σ) (O' : Own w G h' g τ) (hk : ∀ c ∈ τ, ∃ c' ∈ σ, c'.key = c.key) (hn : h.get? a = none) (he : h'.get? a = some o) (hp : P o) : Own w G h' g (.o a P :: τ) where
  wf := O'.wf
  keep := O'.keep
  at' := fun c hc => by
    rcases List.mem_cons.mp hc with rfl | hc
    · exact ⟨o, he, hp⟩
    · exact O'.at' c hc
  low := fun b Q m => by
    rcases List.mem_cons.mp m with q | m
    · cases q
      cases z : G.get? a with
      | none => rfl
      | some o => have := O.keep _ _ z; rw [hn] at this; cases this
    · exact O'.low b Q m
  nodup := by
    rw [List.map_cons]
    refine List.nodup_cons.mpr ⟨fun hm => ?_, O'.nodup⟩
    obtain ⟨c, hc, hq⟩ := List.mem_map.mp hm
    obtain ⟨c', hc', hk'⟩ := hk c hc
    have z := O.at' c' hc'
    cases c' with
    | o b P =>
      have hk' : @Eq Nat (2 * b) (2 * a) := hk'.trans hq
      have : @Eq Nat b a := by omega
      subst this
      obtain ⟨o, ho, _⟩ := z
      rw [hn] at ho; cases ho
    | g n st =>
      have hk' : @Eq Nat (2 * n + 1) (2 * a) := hk'.trans hq
      omega
  bare := O'.bare
theorem Upd.keyOf {a : Addr} {P P' : Obj → Prop} {σ τ : SH} (u : Upd a P P' σ τ) : ∀ c ∈ τ, ∃ c' ∈ σ, c'.key = c.key := fun c hc => by
  have := List.mem_map_of_mem (f := Cl.key) hc
  rw [u.keys] at this
  obtain ⟨c', h1, h2⟩ := List.mem_map.mp this
  exact ⟨c', h1, h2⟩
theorem wf_builtinsAt (O : Own w G h g σ) {P : Addr} (hP : G.get? P = none) : ∃ mg, h.Ns mainGlobals mg ∧ h.BuiltinsAt mg P ∧ mainGlobals ≠ P := by
  obtain ⟨mg, mb, hg, hb, _, bm, ob, b1, b2, b3, b4, b5, b6⟩ := O.wf.top
  refine ⟨mg, hg.keeps O.keep, ⟨bm, ob, b1, b2, fun q => ?_, fun q => ?_, O.keep _ _ b3, b4, b5, b6⟩, fun q => ?_⟩
  · obtain ⟨o, es, ep, e, hd, _⟩ := hg
    rw [q, e] at b3; cases b3; rw [hd] at b6; cases b6
  · rw [q, hP] at b3; cases b3
  · obtain ⟨o, es, ep, e, hd, _⟩ := hg
    rw [q, hP] at e; cases e

theorem Sw.makeFn_new {name qual : Str} {params : Arguments} {body : List Stmt} {scope : Scope} {clos : List (Str × Addr)} {ps : Array Value} {pos : Pos} {firstLine : Nat} {c P : Addr} {Φ : Value → SH → Prop}
    (hcl : closureFor scope env = Pure.pure clos) (hge : env.globals = mainGlobals) (hcode : env.code = .ref c) (C : CodeHd B.G c P)
    (ht : TriplesOk ps.toList) (hnf : codeAmong pos ps.toList = none) (u : ∀ c', Upd P (eqP (tabObj ps)) (eqP (tabObj (ps ++ #[rawInt pos.line, rawInt pos.col, .ref c']))) σ (τ c'))
    (x : ∀ f c' doc pm ctv, Φ (.ref f) (.o f (eqP (fnMade name qual params body scope clos doc pm c' ctv)) :: .o c' (codeP qual) :: τ c')) :
    Sw B A (makeFunction name qual params (.stmts body) scope env [] [] [] pos firstLine) Φ Ψ σ := fun h g d k O => by
  have hm := (u 0).mem
  obtain ⟨o, hP, rfl⟩ := O.get hm
  obtain ⟨mg, hg, hb, hgP⟩ := wf_builtinsAt O (O.low P _ hm)
  refine makeFunction_K hcl hge hg hcode (C.keeps O.keep) hP ht hnf hgP hb fun c' ctv doc h' tk hx hge hlt hrec htb => ?_
  obtain ⟨c₂, oc, vs, t, e2, hoc, hd, hv⟩ := hrec
  cases e2
  have O1 : Own B.w B.G h' g (τ c') := O.upd (u c') (fun b o hb e => hx b o hb e) ⟨_, htb, rfl⟩
  have O2 := Own.alloc (P := codeP qual) O O1 (u c').keyOf (Heap.get?_none_of_le hge) hoc ⟨vs, t, hd, hv⟩
  exact .mk (O2.push rfl (P := eqP _) rfl) (x _ _ _ _ _)
theorem Sw.makeFn_hit {name qual : Str} {params : Arguments} {body : List Stmt} {scope : Scope} {clos : List (Str × Addr)} {ps : Array Value} {pos : Pos} {firstLine : Nat} {c P c' : Addr} {Φ : Value → SH → Prop}
    (hcl : closureFor scope env = Pure.pure clos) (hge : env.globals = mainGlobals) (hcode : env.code = .ref c) (C : CodeHd B.G c P)
    (ht : TriplesOk ps.toList) (hf : codeAmong pos ps.toList = some (.ref c')) (m : Cl.o P (eqP (tabObj ps)) ∈ σ)
    (x : ∀ f doc pm ctv, Φ (.ref f) (.o f (eqP (fnMade name qual params body scope clos doc pm c' ctv)) :: σ)) :
    Sw B A (makeFunction name qual params (.stmts body) scope env [] [] [] pos firstLine) Φ Ψ σ := fun h g d k O => by
  obtain ⟨o, hP, rfl⟩ := O.get m
  obtain ⟨mg, hg, hb, hgP⟩ := wf_builtinsAt O (O.low P _ m)
  refine makeFunction_hit hcl hge hg hcode (C.keeps O.keep) hP ht hf hb fun ctv doc h' tk hk hsz => ?_
  exact .mk ((O.keeps hk).push rfl (P := eqP _) rfl) (x _ _ _ _)
theorem Sw.s_Def {name : Str} {params : Arguments} {body : List Stmt} {scope : Scope} {pos : Pos} {Φ : Flow → SH → Prop} (hd0 : params.defaults = []) (hk0 : params.kw_defaults = []) (ha : annTrees params none env = [])
    (x : Sw B A (makeFunction name (qualnameIn env name name) params (.stmts body) scope env [] [] [] pos pos.line) (fun v τ => Sw B A (storeName env name v) (fun _ => Φ .next) Ψ τ) Ψ σ) :
    Sw B A (exec (.FunctionDef name params body [] none [] scope none name pos) env) Φ Ψ σ := fun h g d k O =>
  nestDef_K hd0 hk0 ha (wpAny_mono (x h g d k O) (fun v s q => q.bind) fun _ _ q => q)
theorem codeHd_K {c P : Addr} {oc : Obj} {vs : Array Value} {file : Str} {tf tg tt : Tok} {flags text : Int} {inF : Bool} (W : WF w G) (h1 : (KF w).lookup c = some oc) (h2 : oc.cls = .type "code") (h3 : oc.data = .fields vs) (h4 : vs[11]? = some (.ref P)) (h5 : vs.getD 11 .none = .ref P) (h6 : vs.getD 18 .none = .str file tf)
    (h7 : vs.getD 7 .none = .int flags tg) (h8 : vs.getD 9 .none = .bool inF) (h9 : vs.getD 10 .none = .int text tt) (hne : c ≠ P) : CodeHd G c P := ⟨_, _, file, tf, flags, tg, inF, text, tt, W.K _ _ h1, h2, h3, h4, h5, h6, h7, h8, h9, hne⟩
theorem codeHd_73 (W : WF w G) : CodeHd G 77 73 := codeHd_K W rfl rfl rfl rfl rfl rfl rfl rfl rfl (by decide)
theorem codeHd_181 (W : WF w G) : CodeHd G 185 181 := codeHd_K W rfl rfl rfl rfl rfl rfl rfl rfl rfl (by decide)
end
end

-- B7
section
-- what is asked of a thing's class
def TyIs (B : Bx) (v : Value) (T : String) (τ : SH) : Prop := ∀ h g d k, Own B.w B.G h g τ → (⟨h, g, d, k, B.os⟩ : Shared).TypeIs v T
section
variable {B : Bx} {A : Around} {Ψ : Value → SH → Prop} {σ τ : SH} {env : Env}
theorem TyIs.own {a : Addr} {P : Obj → Prop} {T : String} (m : Cl.o a P ∈ τ) (hp : ∀ o, P o → o.cls = .type T) : TyIs B (.ref a) T τ := fun h g d k O => by
  obtain ⟨o, ho, q⟩ := O.get m
  exact ⟨o, ho, hp o q⟩
theorem TyIs.kin {a : Addr} {o : Obj} {T : String} (e : (KF B.w).lookup a = some o) (hc : o.cls = .type T) : TyIs B (.ref a) T τ := fun h g d k O => ⟨o, O.keep _ _ (O.wf.K _ _ e), hc⟩
def MethOn (B : Bx) (v : Value) (T : String) (τ : SH) : Prop := ∀ h g d k, Own B.w B.G h g τ → (⟨h, g, d, k, B.os⟩ : Shared).TypeIs v T ∧ ∀ a, v = .ref a → ∃ ob, h.get? a = some ob ∧ ob.dict = none
theorem MethOn.own {a : Addr} {P : Obj → Prop} {T : String} (m : Cl.o a P ∈ τ) (hp : ∀ o, P o → o.cls = .type T ∧ o.dict = none) : MethOn B (.ref a) T τ := fun h g d k O => by
  obtain ⟨o, ho, q⟩ := O.get m
  exact ⟨⟨o, ho, (hp o q).1⟩, fun b hb => by cases hb; exact ⟨o, ho, (hp o q).2⟩⟩
theorem MethOn.kin {a : Addr} {o : Obj} {T : String} (e : (KF B.w).lookup a = some o) (hc : o.cls = .type T) (hn : o.dict = none) : MethOn B (.ref a) T τ := fun h g d k O => by
  have ho := O.keep _ _ (O.wf.K _ _ e)
  exact ⟨⟨o, ho, hc⟩, fun b hb => by cases hb; exact ⟨o, ho, hn⟩⟩
theorem MethOn.str {s : Str} {k : Tok} : MethOn B (.str s k) "str" τ := fun h g d k O => ⟨rfl, fun a ha => by cases ha⟩
theorem Sw.e_Call_Meth {o : Expr} {name : Str} {apos pos : Pos} {args : List Expr} {T id : String} {Φ : Value → SH → Prop} (pa : PlainAttrs T) (slot : Slot T name id) (hty : typeOf (.builtin id) = Pure.pure (.type "method_descriptor"))
    (y : Sw B A (eval o env) (fun ov τ => MethOn B ov T τ ∧ Args B A Ψ env args (fun vs τ => Sw B A (call (.builtin id) (ov :: vs)) Φ Ψ τ) τ) Ψ σ)
    (hbase : attributeBase o name env (eval o env) = eval o env := by with_unfolding_all rfl)
    (hfew : ((backTo pos (starEach args env)).all (fun x => !x.1) && (backToKw pos (keywordEach [] env)).all (fun x => x.1.isSome)
      && decide (args.length + ([] : List Keyword).length + (if ([] : List Keyword).isEmpty then 0 else 1) < 30)) = true := by with_unfolding_all rfl)
    (hline : (apos.endLine == pos.line) = true := by with_unfolding_all rfl) (hp : args.all plainE = true := by with_unfolding_all rfl) : Sw B A (eval (.Call (.Attribute o name apos) args [] pos) env) Φ Ψ σ := fun h g d k O =>
  wpAny_Call_method hbase hfew hline pa slot hty (wpAny_mono (y h g d k O) (fun ov s q => by
    obtain ⟨τ, O, e, hm, q⟩ := q
    obtain ⟨h, g, d, k, os⟩ := s
    cases e
    obtain ⟨h1, h2⟩ := hm h g d k O
    refine ⟨h1, h2, ?_⟩
    exact Sw.callWith (f := .builtin id) (first := [ov]) hp rfl (fun _ q => by cases q) (q.mono fun vs τ z => ⟨trivial, z⟩) h g d k O) fun _ _ q => q)
theorem Sw.e_Subscript {value slice : Expr} {pos : Pos} {Φ : Value → SH → Prop}
    (x : Sw B A (eval value env) (fun o τ => Sw B A (eval slice env) (fun i τ => (∃ T id, typeLookup (.type T) "__getitem__" = Pure.pure (some (.builtin id)) ∧ TyIs B o T τ) ∧ Sw B A (getItem o i) Φ Ψ τ) Ψ τ) Ψ σ)
    (hs : ∀ o i, subscripted slice false o i = operate [o, i] (getItem o i) := by intro _ _; with_unfolding_all rfl) (ht : ∀ o r, letTemporaryGo value o r = Pure.pure () := by intro _ _; with_unfolding_all rfl) : Sw B A (eval (.Subscript value slice pos) env) Φ Ψ σ := by
  rw [eval_Subscript]
  refine Sw.bind (x.mono (fun o τ q => Sw.bind (Sw.holding (q.mono (fun i τ q => Sw.bind (Sw.standAt ?_)) fun _ _ q => q))) fun _ _ q => q)
  obtain ⟨⟨T, id, hl, hT⟩, q⟩ := q
  intro h g d k O
  refine wpAny_bind ?_
  have hT := hT h g d k O
  rw [getitemInPython_of_ne hT.not_modules]
  refine wpAny_bind (wpAny_specialOf hT hl ?_)
  refine wpAny_pure (wpAny_bind ?_)
  rw [hs]
  refine wpAny_operating (wpAny_mono (q h g d k O) (fun r s q => ?_) fun _ _ q => q)
  exact wpAny_bind (wpAny_of_eq (ht _ _) (wpAny_pure q))
theorem Sw.s_Try {body orelse : List Stmt} {h₀ : ExceptHandler} {hs : List ExceptHandler} {pos : Pos} {Φ : Flow → SH → Prop}
    (x : Sw B A (execs body env) (fun f τ => match f with | .next => Sw B A (execs orelse env) Φ Ψ τ | f => Φ f τ)
      (fun e τ => Sw B A (noteFrame e env) (fun _ τ => Sw B A (setFlight e none) (fun _ τ => Sw B A (handleBy e env (h₀ :: hs)) Φ Ψ τ) Ψ τ) Ψ τ) σ) :
    Sw B A (exec (.Try body (h₀ :: hs) orelse [] pos) env) Φ Ψ σ := fun h g d k O => by
  refine wpAny_Try_except (wpAny_mono (x h g d k O) (fun f s q => ?_) fun e s q => ?_)
  · obtain ⟨τ, O, e, q⟩ := q
    obtain ⟨h, g, d, k, os⟩ := s
    cases e
    cases f with
    | next => exact q h g d k O
    | _ => exact .mk O q
  · obtain ⟨τ, O, e, q⟩ := q
    obtain ⟨h, g, d, k, os⟩ := s
    cases e
    refine wpAny_mono (q h g d k O) (fun _ s q => ?_) fun _ _ q => q
    obtain ⟨τ, O, e, q⟩ := q
    obtain ⟨h, g, d, k, os⟩ := s
    cases e
    refine wpAny_mono (q h g d k O) (fun _ s q => ?_) fun _ _ q => q
    obtain ⟨τ, O, e, q⟩ := q
    obtain ⟨h, g, d, k, os⟩ := s
    cases e
    exact q h g d k O
theorem Sw.getItem_slot {o i : Value} {T id : String} {Φ : Value → SH → Prop} (hT : TyIs B o T σ) (slot : Slot T "__getitem__" id) (x : Sw B A (call (.builtin id) [o, i]) Φ Ψ σ) (hn : seqItemTypes.contains T = false := by decide +kernel) : Sw B A (getItem o i) Φ Ψ σ := fun h g d k O =>
  wpAny_getItem_slot (hT h g d k O) hn slot (x h g d k O)
end
end

-- F1
section
section
variable {B : Bx} {A : Around} {Ψ : Value → SH → Prop} {σ τ : SH}
-- the room of a call made wide: figures in the place of letters
abbrev wide : Around := { handled := none, depth := 690, frames := none, guards := none, units := 9000 }
theorem wpAny_wide {α : Type} {M : Model} {t : Sem α} {Q : α → Shared → Prop} {E : Value → Shared → Prop} {s : Shared} (hh : A.handled = none) (hd : A.depth ≤ 690) (hu : A.units ≤ 9000) (h : wpAny M wide t Q E s) : wpAny M A t Q E s :=
  fun Γ p hΓ => h Γ p ⟨by rw [hΓ.1, hh], Nat.le_trans hΓ.2.1 hd, (fun _ e => nomatch e), (fun _ e => nomatch e), Nat.le_trans hΓ.2.2.2.2 hu⟩
theorem x_keeps {h h' : Heap} {g : Array GenState} {news : List (Addr × Obj)} (O : Own B.w B.G h g σ) (D : Mem h h' [] news) : Own B.w B.G h' g σ := O.keeps fun b o e => D.keep b o e (by simp [away])
theorem x_end {v : Value} {Φ : Value → SH → Prop} {h h' : Heap} {g : Array GenState} {d : Drawn} {k : Tok} {news : List (Addr × Obj)} (O : Own B.w B.G h g σ) (D : Mem h h' [] news) (x : Φ v σ) : PA B Φ v ⟨h', g, d, k, B.os⟩ := .mk (x_keeps O D) x
theorem x_endS {b s : Str} {Φ : Value → SH → Prop} {h h' : Heap} {g : Array GenState} {d : Drawn} {k : Tok} {kk : Tok} {news : List (Addr × Obj)} (O : Own B.w B.G h g σ) (D : Mem h h' [] news) (e : b = s) (x : ∀ k, Φ (.str s k) σ) : PA B Φ (.str b kk) ⟨h', g, d, k, B.os⟩ := by subst e; exact .mk (x_keeps O D) (x _)
theorem x_endS0 {b s : Str} {Φ : Value → SH → Prop} {h : Heap} {g : Array GenState} {d : Drawn} {k : Tok} {kk : Tok} (O : Own B.w B.G h g σ) (e : b = s) (x : ∀ k, Φ (.str s k) σ) : PA B Φ (.str b kk) ⟨h, g, d, k, B.os⟩ := by subst e; exact .mk O (x _)
theorem x_kin {h : Heap} {g : Array GenState} (O : Own B.w B.G h g σ) : (hd.heap_39 B.w.params).In h := O.wf.K.keeps O.keep

abbrev strQ : Str := Str.ofString "a\""
noncomputable def patO (w : World) : Obj := ((KF w).lookup 62).getD default
noncomputable def lstO (w : World) : Obj := ((KF w).lookup 61).getD default
theorem patO_e (w : World) : (KF w).lookup 62 = some (patO w) := by kernel_rfl
theorem lstO_e (w : World) : (KF w).lookup 61 = some (lstO w) := by kernel_rfl
theorem patO_c (w : World) : (patO w).cls = .type "re.Pattern" := by kernel_rfl
def patF : Array Value := #[.str ⟨#[40, 91, 92, 92, 34, 93, 124, 91, 94, 92, 32, 45, 126, 93, 41]⟩ 350, .int 32 385, .int 1 0, .none, .none, .ref 61, .int 0 0]
theorem patO_d (w : World) : (patO w).data = .fields patF := by kernel_rfl
theorem patO_n (w : World) : (patO w).dict = none := by kernel_rfl
def codeQ : Array Value := #[.int 14 0, .int 4 0, .int 0 0, .int 1 0, .int 1 0, .int 17 0, .int 0 0, .int 7 0, .int 10 0, .int 13 0, .int 6 0, .int 16 0, .int 92 0, .int 16 0, .int 34 0, .int 0 0, .int 15 0, .int 12 0, .int 10 0, .int 13 0, .int 6 0, .int 21 0, .int 22 0, .int 32 0, .int 126 0, .int 0 0, .int 15 0, .int 2 0, .int 0 0, .int 17 0, .int 1 0, .int 1 0]
noncomputable def lstN (w : World) : Nat := match (lstO w).data with | .seq _ n => n | _ => 0
theorem lstO_t (w : World) : (match (lstO w).data with | .seq a _ => true | _ => false) = true := by kernel_rfl
theorem lstO_y (w : World) : (match (lstO w).data with | .seq a _ => a | _ => #[]) = codeQ := by kernel_rfl
theorem lstO_d (w : World) : ∃ n, (lstO w).data = .seq codeQ n := by
  have h1 := lstO_t w
  have h2 := lstO_y w
  revert h1 h2
  cases (lstO w).data with
  | seq a n => intro _ h2; exact ⟨n, by rw [show a = codeQ from h2]⟩
  | _ => intro h1; cases h1
theorem lstO_c (w : World) : (lstO w).cls = .type "tuple" := by kernel_rfl
def tgtQ (v : Value) : Builtin.Re.ReTarget := { pattern := .ref 62, string := v, code := (codeQ.map Builtin.Re.reRawOf).map (·.toNat), text := strQ.cps, kind := 0, groups := 1, pos := 0, lim := 2 }
def driveN : Nat → Sre.M → Sre.M
  | 0, m => m
  | n + 1, m => let m := m.runFor 4; if m.outcome.isSome then m else driveN n m
def mQ : Sre.M := driveN 50 (Sre.forSearch ((codeQ.map Builtin.Re.reRawOf).map (·.toNat)) strQ.cps 1 0 2 false)
theorem mQ_s : (mQ.start, mQ.handed, mQ.lastindex) = (1, 2, 1) := by decide +kernel
theorem nextQ0 (w : World) (v : Value) : skim ⟨prog, w.params⟩ 1000 (Builtin.Re.reNextFound (tgtQ v) 0 false) = Sem.pure (some mQ) := by kernel_rfl
theorem Sw.reWhole {k : Tok} {Φ : Builtin.Re.ReTarget → SH → Prop} (x : Φ (tgtQ (.str strQ k)) σ) : Sw B A (Builtin.Re.reWholeTarget (.ref 62) (.str strQ k)) Φ Ψ σ := fun h g d tk O => by
  have e1 := x_kin O _ _ (patO_e B.w)
  have e2 := x_kin O _ _ (lstO_e B.w)
  obtain ⟨n, hd⟩ := lstO_d B.w
  have hc := lstO_c B.w
  have hpd := patO_d B.w
  unfold Builtin.Re.reWholeTarget
  refine wpAny_bind (wpAny_fieldsOf e1 hpd ?_)
  refine wpAny_bind (m := Builtin.Re.reTextOf (.str strQ k)) (wpAny_of_eq (a := (strQ.cps, 0)) rfl ?_)
  dsimp only
  rw [if_neg (by decide +kernel), if_neg (by decide +kernel)]
  refine wpAny_bind (wpAny_of_eq (a := ()) rfl ?_)
  refine wpAny_bind (m := Builtin.Re.reRawItems (.ref 61)) ?_
  unfold Builtin.Re.reRawItems seqItems?
  refine wpAny_bind (wpAny_bind (wpAny_load e2 ?_))
  rw [hd]
  refine wpAny_pure (wpAny_pure (wpAny_pure ?_))
  exact .mk O x

theorem Upd.mem' {a : Addr} {P P' : Obj → Prop} {σ τ : SH} (u : Upd a P P' σ τ) : Cl.o a P' ∈ τ := by
  obtain ⟨p, q, _, rfl⟩ := u.split; exact List.mem_append_right _ (.head _)
theorem Sw.pushL {l : Addr} {vs : List Value} {v : Value} {Φ : Unit → SH → Prop} (u : Upd l (listP vs) (listP (vs ++ [v])) σ τ) (hl : vs.length < 100000) (x : Φ () τ) : Sw B A (updateSeq l (·.push v)) Φ Ψ σ := fun h g d k O => by
  obtain ⟨o, ho, n, rfl⟩ := O.get u.mem
  unfold updateSeq
  refine wpAny_bind (wpAny_load ho ?_)
  refine wpAny_bind (wpAny_update ho ?_)
  have O' := O.update u (f := Obj.mapSeq (·.push v)) (fun o hp => by
    obtain ⟨n, rfl⟩ := hp
    refine ⟨rfl, ?_⟩
    show ∃ m, _ = _
    simp only [Obj.mapSeq, List.push_toArray]
    exact ⟨_, rfl⟩)
  obtain ⟨o', ho', n', rfl⟩ := O'.get u.mem'
  exact wpAny_lookBehind ho' (pastItsLine_seq (by rw [sizeLine_eq]; simp; omega)) (.mk O' x)
-- one match of ESCAPE_ASCII in 'a"'
def matchP (k : Tok) (t : Addr) (o : Obj) : Prop := o = { cls := .type "re.Match", data := .fields #[.str strQ k, .ref 62, .int 0 0, .int 2 0, .int 1 0, .ref t] }
theorem Sw.newMatch {c : Cl} {k : Tok} {Φ : Value → SH → Prop} (x : ∀ m t, Φ (.ref m) (c :: .o m (matchP k t) :: .o t (tupP [.int 1 0, .int 2 0, .int 1 0, .int 2 0]) :: σ)) : Sw B A (Builtin.Re.reNewMatch (.ref 62) (.str strQ k) 1 0 2 mQ) Φ Ψ (c :: σ) := fun h g d tk O => by
  have e : Builtin.Re.reNewMatch (.ref 62) (.str strQ k) 1 0 2 mQ = (do newFields "re.Match" [.str strQ k, .ref 62, .int 0 0, .int 2 0, .int 1 0, ← newTuple [.int 1 0, .int 2 0, .int 1 0, .int 2 0]]) := by kernel_rfl
  rw [e]
  unfold newTuple newFields
  refine wpAny_bind (wpAny_newObj_type ?_ (by size_fits))
  refine wpAny_newObj_type ?_ (by size_fits)
  have O1 := O.push2 (P := tupP [.int 1 0, .int 2 0, .int 1 0, .int 2 0]) (o := { cls := .type "tuple", data := .seq #[.int 1 0, .int 2 0, .int 1 0, .int 2 0] }) rfl ⟨_, rfl⟩
  exact .mk (O1.push2 (P := matchP k h.objs.size) rfl rfl) (x _ _)
end
end

section
local macro_rules | `(tactic| walk_at "mem") => `(tactic| with_reducible first | assumption | exact List.mem_cons_self | (refine' List.mem_append_right _ ?a; (case a => walk_at "mem")) | (refine' List.mem_append_left _ ?a; (case a => walk_at "mem")) | (refine' List.mem_cons_of_mem _ ?a; (case a => walk_at "mem")))
local macro_rules | `(tactic| walk_at "upd") => `(tactic| with_reducible first | exact Upd.head | (refine' Upd.tail ?a; (case a => walk_at "upd")))
local macro_rules | `(tactic| walk_at "del") => `(tactic| with_reducible first | exact Del.head | (refine' Del.tail ?a; (case a => walk_at "del")))
local macro_rules | `(tactic| walk_at "nat") => `(tactic| with_reducible first | exact NAt.head | (refine' NAt.tail ?a; (case a => walk_at "nat")))
local macro_rules | `(tactic| walk_at "nput") => `(tactic| with_reducible first | exact NPut.head | (refine' NPut.tail ?a; (case a => walk_at "nput")))
local macro_rules | `(tactic| walk_at "iv") => `(tactic| with_reducible first | exact IV.nil | (refine' IV.arg ?a; (case a => walk_at "iv")) | (refine' IV.rest ?a; (case a => walk_at "iv")))
local macro_rules | `(tactic| walk_at "sub") => `(tactic| with_reducible first | exact List.Sublist.refl _ | (refine' List.Sublist.cons _ ?a; (case a => walk_at "sub")) | (refine' List.Sublist.cons_cons _ ?a; (case a => walk_at "sub")))
local macro_rules | `(tactic| walk_at "cat") => `(tactic| with_reducible first | exact CAt.head | (refine' CAt.tail ?a; (case a => walk_at "cat")))
local macro_rules | `(tactic| walk_at "subp") => `(tactic| (refine Subp.of_cnt fun _ => ?_; simp only [cnt_append, cnt_cons, cnt_nil]; omega))
local macro_rules | `(tactic| walk_at "py1") => `(tactic| with_reducible first
  | refine Sw.execs_nil ?_
  | refine Sw.execs_cons ?_
  | refine ite_pos (c := true = true) rfl ?_
  | refine ite_neg (c := false = true) Bool.false_ne_true ?_
  | refine Sw.s_Assign_Name ?_
  | refine Sw.s_AugAssign_Name ?_
  | refine Sw.s_If ?_
  | refine Sw.s_Return ?_
  | refine Sw.s_Return0 ?_
  | refine Sw.s_Pass ?_
  | (refine' Sw.ldG ?e ?g ?r ?x ?v ?_; (case e => assumption); (case g => assumption); (case x => decide); (case v => walk_at "mem"); (case r => (intro _ _; walk_at "mem")))
  | refine Args.cons ?_
  | refine Args.nil ?_
  | refine callee_ok rfl ?_
  | refine Sw.s_Try ?_
  | refine Sw.e_Or ?_
  | refine Sw.e_And ?_
  | refine Sw.e_Bool1 ?_
  | refine Sw.isTrue_or ?_
  | refine Sw.isTrue_and ?_
  | refine Sw.isTrue_and0 ?_
  | refine Sw.isTrue_or0 ?_
  | refine Sw.e_IfExp ?_
  | refine Sw.e_Subscript ?_
  | refine Sw.e_Call_Name ?_
  | refine Sw.s_Expr ?_
  | refine Sw.s_For ?_
  | refine Sw.s_While ?_
  | (refine Sw.e_Const_int ?_; intro _)
  | (refine Sw.e_Const_str ?_; intro _)
  | refine Sw.e_Const_none ?_
  | refine Sw.e_Const_bool ?_
  | refine Sw.e_BinOp ?_
  | refine Sw.e_Compare ?_
  | refine Sw.e_UnaryOp ?_
  | refine Sw.isTrue_Compare ?_
  | refine Sw.isTrue_not ?_
  | refine Sw.isTrue_Name ?_
  | refine Sw.isTrue_Call ?_
  | refine Sw.isTrue_Attribute ?_
  | refine Sw.isTrue_Subscript ?_
  | refine Sw.truthy_bool ?_
  | refine Sw.assign_Name ?_
  | (refine' Sw.ld ?e ?a ?_; (case e => assumption); (case a => walk_at "nat"))
  | (refine' Sw.ldn ?e ?a ?_; (case e => assumption); (case a => walk_at "nat"))
  | (refine' Sw.st ?e ?p ?_; (case e => assumption); (case p => walk_at "nput"))
  | (refine' Sw.ldgE ?e ?x ?k ?_; (case e => assumption); (case k => walk_at "gl"); (case x => walk_at "mem"))
  | (refine' Sw.ldbE ?e ?x ?v ?k ?n ?_; (case e => assumption); (case v => walk_at "bl"); (case x => walk_at "mem"); (case k => kernel_rfl); (case n => decide))
  | (refine' Sw.ldc ?e ?h ?a ?m ?_; (case e => assumption); (case h => assumption); (case a => walk_at "cat"); (case m => walk_at "mem"))
  | (refine' Sw.stC ?e ?k ?h ?a ?u ?_; (case e => assumption); (case k => assumption); (case h => assumption); (case a => walk_at "cat"); (case u => walk_at "upd"))
  | (refine' Sw.ldg ?e ?k ?x ?g ?d ?_; (case e => walk_at "gl"); (case k => kernel_rfl); (case x => kernel_rfl); (case g => kernel_rfl); (case d => decide))
  | (refine' Sw.ldb ?e ?v ?n ?k ?x ?g ?b ?d ?_; (case v => walk_at "bl"); (case e => kernel_rfl); (case n => decide); (case k => kernel_rfl); (case x => kernel_rfl); (case g => kernel_rfl); (case b => kernel_rfl); (case d => decide)))
local macro_rules | `(tactic| walk_at "py") => `(tactic| repeat (first | walk_at "py1" | (dsimp only; walk_at "py1")))

-- F2a
section
theorem slot_re_sub : Slot "re.Pattern" (Str.ofString "sub") "re.Pattern.sub" :=
  .of (owner := "re.Pattern") (n := "sub") (by rw [typeLookup_type, builtinLookup_eq_fast]; kernel_rfl) (by decide +kernel) (by decide +kernel) (by decide +kernel)
    (by first | exact .inl (by decide +kernel) | exact .inr (by decide +kernel)) (by rw [isSubtype_type]; kernel_rfl)
theorem type_re_sub : typeOf (.builtin "re.Pattern.sub") = pure (.type "method_descriptor") := by show builtinType _ = _; rw [builtinType_eq_fast]; kernel_rfl
theorem attrs_re_Pattern : PlainAttrs "re.Pattern" := ⟨⟨"object.__getattribute__", by rw [typeLookup_type, builtinLookup_eq_fast]; kernel_rfl, by decide +kernel⟩, by rw [typeLookup_type, builtinLookup_eq_fast]; kernel_rfl⟩
theorem slot_re_group : Slot "re.Match" (Str.ofString "group") "re.Match.group" :=
  .of (owner := "re.Match") (n := "group") (by rw [typeLookup_type, builtinLookup_eq_fast]; kernel_rfl) (by decide +kernel) (by decide +kernel) (by decide +kernel)
    (by first | exact .inl (by decide +kernel) | exact .inr (by decide +kernel)) (by rw [isSubtype_type]; kernel_rfl)
theorem type_re_group : typeOf (.builtin "re.Match.group") = pure (.type "method_descriptor") := by show builtinType _ = _; rw [builtinType_eq_fast]; kernel_rfl
theorem attrs_re_Match : PlainAttrs "re.Match" := ⟨⟨"object.__getattribute__", by rw [typeLookup_type, builtinLookup_eq_fast]; kernel_rfl, by decide +kernel⟩, by rw [typeLookup_type, builtinLookup_eq_fast]; kernel_rfl⟩

-- «replace»
def replSt : Stmt := ((fnBody (topStmt 8))[0]?).getD (.Pass default)
@[reducible] def replPs : List Str := ["match"]
@[reducible] def replKs : List Str := ["match", "s", "n", "s1", "s2"]
theorem repl_b : okB (fnScope replSt) replKs [] false = true := by decide +kernel
theorem repl_c : noCellB (fnScope replSt) = true := by decide +kernel
abbrev replName : Str := Str.ofString "replace"
abbrev replQual : Str := Str.ofString "py_encode_basestring_ascii.<locals>.replace"
abbrev replO (doc pm : Value) (c' : Addr) (ctv : Value) : Obj := fnMade replName replQual (fnArgs replSt) (fnBody replSt) (fnScope replSt) [] doc pm c' ctv
abbrev replF (doc pm : Value) (c' : Addr) (ctv : Value) : FuncData := fnX replName replQual (fnArgs replSt) (fnBody replSt) (fnScope replSt) [] .none .none doc pm none (.ref c') ctv
theorem repl_ok (doc pm : Value) (c' : Addr) (ctv : Value) : FnOk (replF doc pm c' ctv) (fnBody replSt) replPs replKs false :=
  FnOk.of rfl rfl repl_b repl_c fun as h => by
    match as, h with
    | [a], _ => exact (by kernel_rfl : bindArgs (replF doc pm c' ctv) ⟨[a], []⟩ = Pure.pure (replPs.zip [a]))
section
variable {B : Bx} {A : Around} {Ψ : Value → SH → Prop} {σ τ : SH}
theorem repl_here {f c' : Addr} {doc pm ctv : Value} (m : Cl.o f (eqP (replO doc pm c' ctv)) ∈ σ) (mc : Cl.o c' (codeP replQual) ∈ σ) : FnHere B f (replF doc pm c' ctv) σ := fun h g O => by
  obtain ⟨o, ho, rfl⟩ := O.get m
  obtain ⟨oc, hoc, vs, t, hd, hv⟩ := O.get mc
  exact ⟨⟨_, ho, rfl⟩, c', oc, vs, t, rfl, hoc, hd, hv⟩
theorem repl_env (doc pm : Value) (c' : Addr) (ctv : Value) (L a : Addr) : EnvOk (envF (replF doc pm c' ctv) L a) replKs [] := EnvOk.of rfl repl_b
local macro_rules | `(tactic| x_close) => `(tactic| first | exact x_endS0 (by assumption) (by kernel_rfl) (by assumption) | exact x_endS (by assumption) (by assumption) (by kernel_rfl) (by assumption))
theorem group_call {m t : Addr} {k : Tok} {Φ : Value → SH → Prop} (hh : A.handled = none) (hd : A.depth ≤ 690) (hu : A.units ≤ 9000) (hm : Cl.o m (matchP k t) ∈ σ) (ht : Cl.o t (tupP [.int 1 0, .int 2 0, .int 1 0, .int 2 0]) ∈ σ) {j : Tok}
    (x : ∀ k, Φ (.str (Str.ofString "\"") k) σ) : Sw B A (call (.builtin "re.Match.group") [.ref m, .int 0 j]) Φ Ψ σ := fun h g d tk O => by
  refine wpAny_wide hh hd hu ?_
  have KX := x_kin O
  obtain ⟨om, e1, rfl⟩ := O.get hm
  obtain ⟨ot, e2, n, rfl⟩ := O.get ht
  show wpAny (model prog B.w) _ _ _ _ _
  x_run
theorem dct_call {Φ : Value → SH → Prop} (hh : A.handled = none) (hd : A.depth ≤ 690) (hu : A.units ≤ 9000) {j : Tok}
    (x : ∀ k, Φ (.str (Str.ofString "\\\"") k) σ) : Sw B A (call (.builtin "dict.__getitem__") [.ref 63, .str (Str.ofString "\"") j]) Φ Ψ σ := fun h g d tk O => by
  refine wpAny_wide hh hd hu ?_
  have KX := x_kin O
  show wpAny (model prog B.w) _ _ _ _ _
  x_run
end
end

-- F2
section
section
variable {B : Bx} {A : Around} {Ψ : Value → SH → Prop} {σ τ : SH}
theorem g_ESCAPE_DCT (w : World) : nsIn (KF w) mainGlobals (Str.ofString "ESCAPE_DCT") = some (some (.ref 63)) := by kernel_rfl
noncomputable def dctO (w : World) : Obj := ((KF w).lookup 63).getD default
theorem dctO_e (w : World) : (KF w).lookup 63 = some (dctO w) := by kernel_rfl
theorem dctO_c (w : World) : (dctO w).cls = .type "dict" := by kernel_rfl
local macro_rules | `(tactic| x_close) => `(tactic| first | exact x_endS0 (by assumption) (by kernel_rfl) (by assumption) | exact x_endS (by assumption) (by assumption) (by kernel_rfl) (by assumption))
theorem Roomy.d {n : Nat} (h : Roomy A n) : A.depth ≤ 690 := by have := h.depth; omega
theorem Roomy.u {n : Nat} (h : Roomy A n) : A.units ≤ 9000 := by have := h.units; omega
theorem Roomy.le {n m : Nat} (h : Roomy A n) (q : m ≤ n) : Roomy A m := ⟨by have := h.depth; omega, by have := h.units; omega⟩
theorem Roomy.deeper {n : Nat} {env : Env} (h : Roomy A (n + 1)) : Roomy (A.deeper env) n := ⟨by have := h.depth; show A.depth + 1 + n ≤ 600; omega, by have := h.units; show A.units + 3 + 20 * n ≤ 8000; omega⟩
theorem Roomy.in1 {n : Nat} (h : Roomy A (n + 1)) : Roomy A.in1 n := ⟨by have := h.depth; show A.depth + n ≤ 600; omega, by have := h.units; show A.units + 1 + 20 * n ≤ 8000; omega⟩
local macro_rules | `(tactic| walk_at "gl") => `(tactic| with_reducible first | exact g_ESCAPE_DCT _)
theorem repl_call {f c' m t : Addr} {doc pm ctv : Value} {k : Tok} {n : Nat} {Φ : Value → SH → Prop} (hh : A.handled = none) (hr : Roomy A (n + 1)) (hf : Cl.o f (eqP (replO doc pm c' ctv)) ∈ σ) (hc : Cl.o c' (codeP replQual) ∈ σ)
    (hm : Cl.o m (matchP k t) ∈ σ) (ht : Cl.o t (tupP [.int 1 0, .int 2 0, .int 1 0, .int 2 0]) ∈ σ) (x : ∀ k, Φ (.str (Str.ofString "\\\"") k) σ) : Sw B A (call (.ref f) [.ref m]) Φ Ψ σ := by
  refine' Sw.callF (repl_here hf hc) (repl_ok doc pm c' ctv) (hr.le (by omega)) ?iv ?_
  case iv => walk_at "iv"
  intro L
  have E := repl_env doc pm c' ctv L f
  have hh' : (A.deeper (envF (replF doc pm c' ctv) L f)).handled = none := hh
  have hr' := hr.deeper (env := envF (replF doc pm c' ctv) L f)
  refine Sw.execs_cons ?_
  refine Sw.s_Assign_Name ?_
  refine Sw.e_Call_Method attrs_re_Match slot_re_group type_re_group ?_
  walk_at "py"
  refine ⟨⟨m, _, rfl, by walk_at "mem", fun o h => by subst h; exact ⟨rfl, rfl⟩⟩, ?_⟩
  refine Sw.e_Const_int ?_
  intro j
  refine group_call hh' hr'.d hr'.u (k := k) (t := t) (by walk_at "mem") (by walk_at "mem") ?_
  intro k2
  walk_at "py"
  refine ⟨⟨"dict", _, slot_dict_getitem.lookup, TyIs.kin (dctO_e _) (dctO_c _)⟩, ?_⟩
  refine Sw.getItem_slot (TyIs.kin (dctO_e _) (dctO_c _)) slot_dict_getitem ?_
  refine dct_call hh' hr'.d hr'.u ?_
  intro k3
  exact ⟨σ, by walk_at "sub", x _⟩
-- «ESCAPE_ASCII.sub(replace, 'a"')»: the loop's second turn, no match more
theorem sub_last {f l : Addr} {k k2 k3 : Tok} {Φ : Value → SH → Prop} (hh : A.handled = none) (hd : A.depth ≤ 690) (hu : A.units ≤ 9000) (hl : Cl.o l (listP [.str (Str.ofString "a") k2, .str (Str.ofString "\\\"") k3]) ∈ σ)
    (x : ∀ k, Φ (.str (Str.ofString "a\\\"") k) σ) : Sw B A (call (.builtin "re.Pattern.sub.loop") [.ref 62, .str strQ k, .ref f, .int 1 0, .int 0 0, .int 1 0, .int 2 0, .int 2 0, .bool false, .ref l, .bool false]) Φ Ψ σ := fun h g d tk O => by
  refine wpAny_wide hh hd hu ?_
  have KX := x_kin O
  obtain ⟨ol, e1, nl, rfl⟩ := O.get hl
  show wpAny (model prog B.w) _ _ _ _ _
  x_run
end
end

-- F3
section
section
variable {B : Bx} {A : Around} {Ψ : Value → SH → Prop} {σ τ : SH}
theorem Sc.builtin {id : String} {args : PySem.Args} {b : Builtin} {R : Result → SH → Prop} (hb : entryFor table id = some b) (hp : plainId id = true)
    (x : Sw B A.in1 (b args) (fun fin τ => match fin with | .done f => R (.ok f) τ | .again c' => c'.quiet = true ∧ Sc B A c' R τ) (fun e τ => R (.error e) τ) σ) : Sc B A (.builtin id args) R σ := fun h g d k O => by
  refine codeAny_of_tree ?_
  rw [Around.under_plainId hp]
  show wpAny _ _ (match entryFor table id with | some b => b args | none => unsupported ((withoutEnding? id "#data").getD id)) _ _ _
  rw [hb]
  refine wpAny_mono (x h g d k O) (fun fin s q => ?_) fun _ _ q => q
  obtain ⟨τ, O, e, q⟩ := q
  obtain ⟨h, g, d, k, os⟩ := s
  cases e
  cases fin with
  | done f => exact .mk O q
  | again c' => exact ⟨q.1, q.2 h g d k O⟩
theorem Sw.call_slot {T : String} {name : Str} {id : String} {self : Value} {rest : List Value} {Φ : Value → SH → Prop} (slot : Slot T name id) (hT : TyIs B self T σ) (ha : argsOk id ⟨self :: rest, []⟩) (hq : (Code.builtin id ⟨self :: rest, []⟩).quiet = true)
    (x : Sc B A (.builtin id ⟨self :: rest, []⟩) (fun r τ => match r with | .ok (.ret v) => Φ v τ | .ok _ => False | .error e => Ψ e τ) σ) : Sw B A (call (.builtin id) (self :: rest)) Φ Ψ σ := fun h g d k O => by
  refine wpAny_call (codeAny_call_builtin_code hq (slot.check _ _ _ _ _ _ _ _ (hT h g d k O) ha ?_))
  refine codeAny_mono (x h g d k O) fun r s q => ?_
  obtain ⟨τ, O, e, q⟩ := q
  cases r with
  | ok f =>
    cases f with
    | ret v => exact ⟨τ, O, e, q⟩
    | _ => exact q.elim
  | error e' => exact ⟨τ, O, e, q⟩
theorem Sw.skim {α : Type} {t : Sem α} {Φ : α → SH → Prop} (n : Nat) (t' : Sem α) (e : skim ⟨prog, B.w.params⟩ n t = t') (x : Sw B A t' Φ Ψ σ) : Sw B A t Φ Ψ σ := fun h g d k O => x_skim n (by rw [e]; exact x h g d k O)
theorem Sw.mkStr {i : Str} {Φ : Value → SH → Prop} (x : ∀ k, Φ (.str i k) σ) (hl : i.length ≤ sizeLine) : Sw B A (mkStr i) Φ Ψ σ := fun _ _ _ k O => wpAny_mkStr (.mk O (x k)) hl
theorem entry_re_loop : entryFor table "re.Pattern.sub.loop" = some Builtin.«re.Pattern.sub.loop» := entryFor_of_tree (by kernel_rfl)
theorem entry_re_sub : entryFor table "re.Pattern.sub" = some Builtin.«re.Pattern.sub» := entryFor_of_tree (by kernel_rfl)
theorem nextQ2 (w : World) (v : Value) : skim ⟨prog, w.params⟩ 1000 (Builtin.Re.reNextFound (tgtQ v) 2 false) = Sem.pure none := by kernel_rfl
theorem mQ_start : mQ.start = 1 := by decide +kernel
theorem mQ_handed : mQ.handed = 2 := by decide +kernel
local macro_rules | `(tactic| x_close) => `(tactic| first | exact x_endS0 (by assumption) (by kernel_rfl) (by assumption) | exact x_endS (by assumption) (by assumption) (by kernel_rfl) (by assumption))
theorem join_q {l : Addr} {k k2 k3 : Tok} {Φ : Value → SH → Prop} (hh : A.handled = none) (hd : A.depth ≤ 690) (hu : A.units ≤ 9000) (hl : Cl.o l (listP [.str (Str.ofString "a") k2, .str (Str.ofString "\\\"") k3]) ∈ σ)
    (x : ∀ k, Φ (.str (Str.ofString "a\\\"") k) σ) : Sw B A (call (.builtin "str.join") [.str (Str.ofString "") k, .ref l]) Φ Ψ σ := fun h g d tk O => by
  refine wpAny_wide hh hd hu ?_
  have KX := x_kin O
  obtain ⟨ol, e1, nl, rfl⟩ := O.get hl
  show wpAny (model prog B.w) _ _ _ _ _
  x_run
theorem sub_loop2 {f l : Addr} {k k2 k3 : Tok} {R : Result → SH → Prop} {n : Nat} (hh : A.handled = none) (hr : Roomy A (n + 1)) (hl : Cl.o l (listP [.str (Str.ofString "a") k2, .str (Str.ofString "\\\"") k3]) ∈ σ)
    (x : ∀ k, R (.ok (.ret (.str (Str.ofString "a\\\"") k))) σ) : Sc B A (.builtin "re.Pattern.sub.loop" ⟨[.ref 62, .str strQ k, .ref f, rawInt 1, rawInt 0, rawInt (0 + 1), rawInt mQ.handed, rawInt mQ.handed, .bool (mQ.handed == mQ.start), .ref l, .bool false], []⟩) R σ := by
  refine Sc.builtin entry_re_loop (by decide +kernel) ?_
  rw [mQ_handed, mQ_start]
  unfold Builtin.«re.Pattern.sub.loop»
  dsimp only [rawInt]
  refine Sw.bind (Sw.reWhole ?_)
  rw [if_neg (by decide)]
  rw [if_neg (by decide)]
  refine Sw.bind (Sw.skim 1000 (.pure none) (nextQ2 _ _) (Sw.pure ?_))
  dsimp only
  have e2 : ¬ (((2 : Nat) : Int).toNat < (tgtQ (.str strQ k)).lim) := by show ¬ (((2:Nat):Int).toNat < 2); decide
  have e3 : ((tgtQ (.str strQ k)).kind == 0) = true := rfl
  rw [if_neg e2]
  refine Sw.bind (Sw.mkStr (i := Str.ofString "") ?_ (by rw [sizeLine_eq]; decide +kernel))
  intro kj
  refine Sw.bind (m := seqItems? (.ref l)) (fun h g d tk O => ?_)
  obtain ⟨ol, e1, nl, rfl⟩ := O.get hl
  unfold seqItems?
  refine wpAny_bind (wpAny_load e1 (wpAny_pure (.mk O ?_)))
  rw [if_neg (by simp), if_pos e3]
  refine Sw.bind (join_q (A := A.in1) hh hr.in1.d hr.in1.u hl ?_)
  intro kt
  rw [if_neg (by decide)]
  exact Sw.pure (x kt)
theorem sub_loop1 {f l c' : Addr} {doc pm ctv : Value} {k : Tok} {R : Result → SH → Prop} {n : Nat} {c : Cl} (hh : A.handled = none) (hr : Roomy A (n + 5)) (hf : Cl.o f (eqP (replO doc pm c' ctv)) ∈ σ) (hc : Cl.o c' (codeP replQual) ∈ σ)
    (x : ∀ k τ, Subp (c :: σ) τ → R (.ok (.ret (.str (Str.ofString "a\\\"") k))) τ) : Sc B A (.builtin "re.Pattern.sub.loop" ⟨[.ref 62, .str strQ k, .ref f, rawInt 1, rawInt 0, rawInt 0, rawInt 0, rawInt 0, .bool false, .ref l, .bool false], []⟩) R (c :: .o l (listP []) :: σ) := by
  refine Sc.builtin entry_re_loop (by decide +kernel) ?_
  unfold Builtin.«re.Pattern.sub.loop»
  dsimp only [rawInt]
  refine Sw.bind (Sw.reWhole ?_)
  rw [if_neg (by decide)]
  rw [if_neg (by decide)]
  refine Sw.bind (Sw.skim 1000 (.pure (some mQ)) (nextQ0 _ _) (Sw.pure ?_))
  dsimp only
  have e1 : (0 : Int).toNat < mQ.start := by rw [mQ_start]; decide
  rw [if_pos e1]
  have e2 : Builtin.Re.reSlice (tgtQ (.str strQ k)).text (tgtQ (.str strQ k)).kind (0 : Int).toNat mQ.start = mkStr (Str.ofString "a") := by rw [mQ_start]; kernel_rfl
  rw [e2]
  refine Sw.bind (Sw.mkStr ?_ (by rw [sizeLine_eq]; decide +kernel))
  intro k2
  refine Sw.bind (Sw.pushL (l := l) (vs := []) (by walk_at "upd") (by decide) ?_)
  rw [if_neg (by decide)]
  refine Sw.bind (Sw.newMatch ?_)
  intro m t
  rw [if_pos (by decide)]
  refine Sw.bind (Sw.holding (repl_call (A := A.in1) (m := m) (t := t) (k := k) hh (hr.in1 (n := n + 4)) (by walk_at "mem") (by walk_at "mem") (by walk_at "mem") (by walk_at "mem") ?_))
  intro k3
  rw [if_pos (by rfl)]
  refine Sw.bind (Sw.pushL (l := l) (by walk_at "upd") (by simp) ?_)
  refine Sw.pure ⟨by kernel_rfl, ?_⟩
  refine sub_loop2 (k2 := k2) (k3 := k3) hh (hr.le (m := 1) (by omega)) (.tail _ (.tail _ (.tail _ (.head _)))) ?_
  intro kt
  exact x kt _ (by walk_at "subp")
end
end

-- F4
section
section
variable {B : Bx} {A : Around} {Ψ : Value → SH → Prop} {σ τ : SH}
theorem Sw.newList {c : Cl} {vs : List Value} {Φ : Value → SH → Prop} (x : ∀ l, Φ (.ref l) (c :: .o l (listP vs) :: σ)) (hl : vs.length < 100000) : Sw B A (newList vs) Φ Ψ (c :: σ) := fun h g d k O => by
  unfold PySem.newList
  refine wpAny_newObj_type ?_ (by show _ ≤ _; rw [sizeLine_eq]; simp; omega)
  exact .mk (O.push2 (P := listP vs) rfl ⟨_, rfl⟩) (x _)
theorem args_re_sub (f : Addr) (k : Tok) : argsOk "re.Pattern.sub" ⟨[.ref 62, .ref f, .str strQ k], []⟩ := by unfold argsOk; kernel_rfl
theorem fn_call_slot : typeLookup (.type "function") (Str.ofString "__call__") = pure (some (.builtin "function.__call__")) := by rw [typeLookup_type, builtinLookup_eq_fast]; kernel_rfl
theorem sub_q {f c' : Addr} {doc pm ctv : Value} {k : Tok} {Φ : Value → SH → Prop} {n : Nat} {c : Cl} (hh : A.handled = none) (hr : Roomy A (n + 5)) (hf : Cl.o f (eqP (replO doc pm c' ctv)) ∈ σ) (hc : Cl.o c' (codeP replQual) ∈ σ)
    (x : ∀ k τ, Subp (c :: σ) τ → Φ (.str (Str.ofString "a\\\"") k) τ) : Sw B A (call (.builtin "re.Pattern.sub") [.ref 62, .ref f, .str strQ k]) Φ Ψ (c :: σ) := by
  refine Sw.call_slot slot_re_sub (TyIs.kin (patO_e _) (patO_c _)) (args_re_sub f k) (by kernel_rfl) ?_
  refine Sc.builtin entry_re_sub (by decide +kernel) ?_
  unfold Builtin.«re.Pattern.sub» Builtin.Re.reSubstitute
  dsimp only
  refine Sw.bind (Sw.skim 1000 (.pure [some (.ref f), some (.str strQ k), none]) (by kernel_rfl) (Sw.pure ?_))
  dsimp only
  refine Sw.bind (Sw.pure ?_)
  refine Sw.bind (m := specialOf (.ref f) (Str.ofString "__call__")) (fun h g d tk O => ?_)
  obtain ⟨of, e1, rfl⟩ := O.get (.tail _ hf)
  refine wpAny_specialOf (T := "function") ⟨_, e1, rfl⟩ fn_call_slot (.mk O ?_)
  rw [if_pos (by rfl)]
  refine Sw.bind (Sw.pure ?_)
  rw [if_pos (by rfl)]
  refine Sw.bind (Sw.pure ?_)
  refine Sw.bind (Sw.holding (Sw.reWhole ?_))
  rw [if_pos (by rfl)]
  refine Sw.bind (Sw.skim 10 (.pure ()) (by kernel_rfl) (Sw.pure ?_))
  refine Sw.bind (Sw.newList ?_ (by decide))
  intro l
  refine Sw.pure ⟨by kernel_rfl, ?_⟩
  exact sub_loop1 hh hr hf hc x
end
end

-- F5
section
def stPos : Stmt → Pos
  | .FunctionDef _ _ _ _ _ _ _ _ _ p => p
  | _ => default
abbrev replPos : Pos := stPos replSt
def encSt : Stmt := topStmt 8
@[reducible] def encPs : List Str := ["s"]
@[reducible] def encKs : List Str := ["s", "replace"]
theorem enc_b : okB (fnScope encSt) encKs [] false = true := by decide +kernel
theorem enc_c : noCellB (fnScope encSt) = true := by decide +kernel
theorem enc_s (w : World) : (fdK w 78).scope = fnScope encSt := by kernel_rfl
theorem enc_e (w : World) : (fdK w 78).body = .stmts (fnBody encSt) := by kernel_rfl
theorem enc_bind (w : World) (a : Value) : bindArgs (fdK w 78) ⟨[a], []⟩ = Pure.pure (encPs.zip [a]) := by kernel_rfl
theorem enc_ok (w : World) : FnOk (fdK w 78) (fnBody encSt) encPs encKs false :=
  FnOk.of (enc_s w) (enc_e w) enc_b enc_c fun as h => by
    match as, h with
    | [a], _ => exact enc_bind w a
theorem enc_code (w : World) : (fdK w 78).code = .ref 77 := by kernel_rfl
theorem enc_glob (w : World) : (fdK w 78).globals = mainGlobals := by kernel_rfl
-- the code table of the encoder of words: empty, or with replace's code in it
def tab1 (c' : Addr) : Array Value := #[rawInt replPos.line, rawInt replPos.col, .ref c']
def I73 (S : SH) : Prop := S = [.o 73 (eqP (tabObj #[]))] ∨ ∃ c', S = [.o 73 (eqP (tabObj (tab1 c'))), .o c' (codeP replQual)]
theorem tab1_among (c' : Addr) : codeAmong replPos (tab1 c').toList = some (.ref c') := by kernel_rfl
theorem tab1_ok (c' : Addr) : TriplesOk (tab1 c').toList := by show TriplesOk [rawInt _, rawInt _, _]; trivial
theorem g_ESCAPE_ASCII (w : World) : nsIn (KF w) mainGlobals (Str.ofString "ESCAPE_ASCII") = some (some (.ref 62)) := by kernel_rfl
theorem b_str : bootBuiltins (Str.ofString "str") = some (.type "str") := by decide +kernel
local macro_rules | `(tactic| walk_at "gl") => `(tactic| with_reducible first | exact g_ESCAPE_DCT _ | exact g_ESCAPE_ASCII _)
local macro_rules | `(tactic| walk_at "bl") => `(tactic| with_reducible first | exact b_str)
section
variable {B : Bx} {A : Around} {Ψ : Value → SH → Prop} {σ τ S : SH}
theorem enc_env (w : World) (L a : Addr) : EnvOk (envF (fdK w 78) L a) encKs [] := EnvOk.of (enc_s w) enc_b
theorem enc_here : FnHere B 78 (fdK B.w 78) σ := fn_here rfl rfl rfl rfl rfl rfl
theorem enc_clos (w : World) (L a : Addr) : closureFor (fnScope replSt) (envF (fdK w 78) L a) = Pure.pure [] := by kernel_rfl
theorem make_repl {L a : Addr} {c : Cl} {Φ : Value → SH → Prop} (hS : I73 S) (x : ∀ f c' doc pm ctv S', I73 S' → Cl.o c' (codeP replQual) ∈ S' → Φ (.ref f) (c :: .o f (eqP (replO doc pm c' ctv)) :: (S' ++ σ))) :
    Sw B A (makeFunction replName replQual (fnArgs replSt) (.stmts (fnBody replSt)) (fnScope replSt) (envF (fdK B.w 78) L a) [] [] [] replPos replPos.line) Φ Ψ (c :: (S ++ σ)) := by
  refine Sw.look fun h0 g0 O0 => ?_
  rcases hS with rfl | ⟨c', rfl⟩
  · refine Sw.shrink (Sw.makeFn_new (ps := #[]) (τ := fun c' => c :: .o 73 (eqP (tabObj (#[] ++ tab1 c'))) :: σ) (clos := []) (enc_clos _ _ _) (enc_glob B.w) (enc_code B.w) (codeHd_73 O0.wf) trivial rfl (fun c' => .tail .head) ?_)
    intro f c' doc pm ctv
    refine ⟨_, ?_, x f c' doc pm ctv [.o 73 (eqP (tabObj (tab1 c'))), .o c' (codeP replQual)] (.inr ⟨c', rfl⟩) (.tail _ (.head _))⟩
    rw [show (#[] ++ tab1 c' : Array Value) = tab1 c' from Array.empty_append]
    refine Subp.of_cnt fun _ => ?_
    simp only [cnt_append, cnt_cons, cnt_nil, replO]
    omega
  · refine Sw.shrink (Sw.makeFn_hit (clos := []) (enc_clos _ _ _) (enc_glob B.w) (enc_code B.w) (codeHd_73 O0.wf) (tab1_ok c') (tab1_among c') (.tail _ (.head _)) ?_)
    intro f doc pm ctv
    refine ⟨_, ?_, x f c' doc pm ctv [.o 73 (eqP (tabObj (tab1 c'))), .o c' (codeP replQual)] (.inr ⟨c', rfl⟩) (.tail _ (.head _))⟩
    refine Subp.of_cnt fun _ => ?_
    simp only [cnt_append, cnt_cons, cnt_nil, replO]
    omega
local macro_rules | `(tactic| x_close) => `(tactic| first | exact x_endS0 (by assumption) (by kernel_rfl) (by assumption) | exact x_endS (by assumption) (by assumption) (by kernel_rfl) (by assumption))
theorem str_str {s : Str} {k : Tok} {Φ : Value → SH → Prop} (hh : A.handled = none) (hd : A.depth ≤ 690) (hu : A.units ≤ 9000) (x : ∀ k, Φ (.str s k) σ) : Sw B A (call (.type "str") [.str s k]) Φ Ψ σ := fun h g d tk O => by
  refine wpAny_wide hh hd hu ?_
  have KX := x_kin O
  show wpAny (model prog B.w) _ _ _ _ _
  x_run
theorem Str.length_append' (a b : Str) : (a ++ b).length = a.length + b.length := by
  show (a.cps ++ b.cps).size = _; rw [Array.size_append]; rfl
theorem Sw.addStr {a b : Str} {j k : Tok} {Φ : Value → SH → Prop} (x : ∀ k, Φ (.str (a ++ b) k) σ) (hl : a.length + b.length ≤ sizeLine) : Sw B A (binaryOp .Add (.str a j) (.str b k)) Φ Ψ σ := fun h g d tk O => PyProof.Rows.add_str (fun t' tk' => .mk O (x t')) hl
theorem enc_call0 {s k : _} {Φ : Value → SH → Prop} {n : Nat} {c : Cl} {out : Str} (hh : A.handled = none) (hr : Roomy A (n + 6)) (hS : I73 S) (hout : out.length ≤ 100)
    (hsub : ∀ (A : Around) (f c' : Addr) (doc pm ctv : Value) (L : Addr) (σ : SH) (c : Cl) (k : Tok) (Φ : Value → SH → Prop), A.handled = none → Roomy A (n + 5) → Cl.o f (eqP (replO doc pm c' ctv)) ∈ σ → Cl.o c' (codeP replQual) ∈ σ →
      (∀ k τ, Subp (c :: σ) τ → Φ (.str out k) τ) → Sw B A (call (.builtin "re.Pattern.sub") [.ref 62, .ref f, .str s k]) Φ NoE (c :: σ))
    (x : ∀ k S', I73 S' → Φ (.str (Str.ofString "\"" ++ out ++ Str.ofString "\"") k) (c :: (S' ++ σ))) : Sw B A (call (.ref 78) [.str s k]) Φ Ψ (c :: (S ++ σ)) := by
  refine' Sw.callF enc_here (enc_ok B.w) (hr.le (by omega)) ?iv ?_
  case iv => walk_at "iv"
  intro L
  have E := enc_env B.w L 78
  have hr' := hr.deeper (n := n + 5) (env := envF (fdK B.w 78) L 78)
  have hh' : (A.deeper (envF (fdK B.w 78) L 78)).handled = none := hh
  refine Sw.execs_cons ?_
  refine Sw.s_Def rfl rfl rfl ?_
  refine Sw.eq (t' := makeFunction replName replQual (fnArgs replSt) (.stmts (fnBody replSt)) (fnScope replSt) (envF (fdK B.w 78) L 78) [] [] [] replPos replPos.line) (by kernel_rfl) ?_
  refine Sw.perm ?_ (τ := .o L (frameP encKs [some (.str s k), none]) :: (S ++ c :: σ)) (List.Perm.cons _ List.perm_middle.symm)
  refine make_repl hS ?_
  intro f c' doc pm ctv S' hS' hc'
  walk_at "py"
  refine ⟨rfl, ?_⟩
  refine Sw.e_Call_Meth attrs_re_Pattern slot_re_sub type_re_sub ?_
  walk_at "py"
  refine ⟨MethOn.kin (patO_e _) (patO_c _) (patO_n _), ?_⟩
  refine Sw.ld E (by walk_at "nat") ?_
  refine Sw.ld E (by walk_at "nat") ?_
  refine Sw.mono (hsub _ f c' doc pm ctv L _ _ _ _ hh' hr' (.head _) (.tail _ (List.mem_append_left _ hc')) ?_) (fun _ _ q => q) (fun _ _ q => q)
  intro k2 τ hτ
  refine ⟨trivial, Sw.subp (τ := c :: (S' ++ σ)) ?_ (Subp.trans ?_ hτ)⟩
  · refine str_str hh' hr'.d hr'.u ?_
    intro k3
    refine Sw.addStr ?_ (by rw [sizeLine_eq]; show 1 + _ ≤ _; omega)
    intro k4
    refine Sw.e_Const_str ?_
    intro k5
    refine Sw.addStr ?_ (by rw [sizeLine_eq, Str.length_append']; show 1 + _ + 1 ≤ _; omega)
    intro k6
    exact ⟨_, List.Sublist.refl _, x _ _ hS'⟩
  · walk_at "subp"
end
end

-- F6
section
section
variable {B : Bx} {A : Around} {Ψ : Value → SH → Prop} {σ τ S : SH}
local macro_rules | `(tactic| x_close) => `(tactic| first | exact x_endS0 (by assumption) (by kernel_rfl) (by assumption) | exact x_endS (by assumption) (by assumption) (by kernel_rfl) (by assumption))
theorem sub_b {f c' : Addr} {doc pm ctv : Value} {k : Tok} {Φ : Value → SH → Prop} {n : Nat} {c : Cl} (hh : A.handled = none) (hr : Roomy A (n + 5)) (hf : Cl.o f (eqP (replO doc pm c' ctv)) ∈ σ)
    (x' : ∀ k τ, Subp (c :: σ) τ → Φ (.str (Str.ofString "b") k) τ) : Sw B A (call (.builtin "re.Pattern.sub") [.ref 62, .ref f, .str (Str.ofString "b") k]) Φ Ψ (c :: σ) := fun h g d tk O => by
  refine wpAny_wide hh hr.d hr.u ?_
  have x : ∀ k, Φ (.str (Str.ofString "b") k) (c :: σ) := fun k => x' k _ (Subp.refl _)
  have KX := x_kin O
  obtain ⟨of, e1, hof⟩ := O.get (.tail _ hf)
  have e2 : h.get? f = some ⟨.type "function", none, .func (replF doc pm c' ctv), #[]⟩ := by rw [e1]; exact congrArg some hof
  clear e1 hof
  show wpAny (model prog B.w) _ _ _ _ _
  x_run
theorem sub_e {f c' : Addr} {doc pm ctv : Value} {k : Tok} {Φ : Value → SH → Prop} {n : Nat} {c : Cl} (hh : A.handled = none) (hr : Roomy A (n + 5)) (hf : Cl.o f (eqP (replO doc pm c' ctv)) ∈ σ)
    (x' : ∀ k τ, Subp (c :: σ) τ → Φ (.str (Str.ofString "") k) τ) : Sw B A (call (.builtin "re.Pattern.sub") [.ref 62, .ref f, .str (Str.ofString "") k]) Φ Ψ (c :: σ) := fun h g d tk O => by
  refine wpAny_wide hh hr.d hr.u ?_
  have x : ∀ k, Φ (.str (Str.ofString "") k) (c :: σ) := fun k => x' k _ (Subp.refl _)
  have KX := x_kin O
  obtain ⟨of, e1, hof⟩ := O.get (.tail _ hf)
  have e2 : h.get? f = some ⟨.type "function", none, .func (replF doc pm c' ctv), #[]⟩ := by rw [e1]; exact congrArg some hof
  clear e1 hof
  show wpAny (model prog B.w) _ _ _ _ _
  x_run
theorem sub_a {f c' : Addr} {doc pm ctv : Value} {k : Tok} {Φ : Value → SH → Prop} {n : Nat} {c : Cl} (hh : A.handled = none) (hr : Roomy A (n + 5)) (hf : Cl.o f (eqP (replO doc pm c' ctv)) ∈ σ)
    (x' : ∀ k τ, Subp (c :: σ) τ → Φ (.str (Str.ofString "a") k) τ) : Sw B A (call (.builtin "re.Pattern.sub") [.ref 62, .ref f, .str (Str.ofString "a") k]) Φ Ψ (c :: σ) := fun h g d tk O => by
  refine wpAny_wide hh hr.d hr.u ?_
  have x : ∀ k, Φ (.str (Str.ofString "a") k) (c :: σ) := fun k => x' k _ (Subp.refl _)
  have KX := x_kin O
  obtain ⟨of, e1, hof⟩ := O.get (.tail _ hf)
  have e2 : h.get? f = some ⟨.type "function", none, .func (replF doc pm c' ctv), #[]⟩ := by rw [e1]; exact congrArg some hof
  clear e1 hof
  show wpAny (model prog B.w) _ _ _ _ _
  x_run
-- the words that a law's things hold, and what they are told as
inductive EncOk : Str → Str → Prop
  | b : EncOk (Str.ofString "b") (Str.ofString "b")
  | e : EncOk (Str.ofString "") (Str.ofString "")
  | a : EncOk (Str.ofString "a") (Str.ofString "a")
  | q : EncOk (Str.ofString "a\"") (Str.ofString "a\\\"")
theorem EncOk.len {s out : Str} (h : EncOk s out) : out.length ≤ 3 := by cases h <;> decide +kernel
theorem enc_call {s out : Str} {k : Tok} {Φ : Value → SH → Prop} {n : Nat} {c : Cl} (he : EncOk s out) (hh : A.handled = none) (hr : Roomy A (n + 6)) (hS : I73 S)
    (x : ∀ k S', I73 S' → Φ (.str (Str.ofString "\"" ++ out ++ Str.ofString "\"") k) (c :: (S' ++ σ))) : Sw B A (call (.ref 78) [.str s k]) Φ Ψ (c :: (S ++ σ)) := by
  refine enc_call0 hh hr hS (Nat.le_trans he.len (by decide)) ?_ x
  intro A f c' doc pm ctv L σ c k Φ hh hr hf hc x
  cases he with
  | b => exact sub_b hh hr hf x
  | e => exact sub_e hh hr hf x
  | a => exact sub_a hh hr hf x
  | q => exact sub_q hh hr hf hc x
end
end

-- B8
section
def dictP (w : World) (kvs : List (Str × Value)) (o : Obj) : Prop := o.ExactDict ∧ ∃ es ep, o.data = .dict es ep ∧ KeysOf (strKind prog w) es ∧ Pairs (strKind prog w) es.toList kvs ∧ (kvs.map (·.1)).Nodup
section
variable {B : Bx} {A : Around} {Ψ : Value → SH → Prop} {σ τ S : SH} {env : Env}
theorem Sw.s_ExprA {e : Expr} {pos : Pos} {Φ : Flow → SH → Prop} (y : Sw B A (eval e env) (fun v τ => Φ .next τ) Ψ σ)
    (hi : interactive env = false := by with_unfolding_all rfl) (hs : swapsWith e none pos.line env = Pure.pure false := by with_unfolding_all rfl) : Sw B A (exec (.Expr e pos) env) Φ Ψ σ := fun h g d k O =>
  wpAny_Expr_any (wpAny_mono (y h g d k O) (fun _ _ q => q) fun _ _ q => q) hi hs
theorem Sw.letTemp {base : Expr} {o r : Value} {Φ : Unit → SH → Prop} (x : Φ () σ) : Sw B A (letTemporaryGo base o r) Φ Ψ σ := fun h g d k O => by
  unfold letTemporaryGo
  split
  · exact wpAny_pure (.mk O x)
  · exact wpAny_bind (wpAny_holding (wpAny_runValue (codeAny_builtin entry_let_go (show wpAny _ _ (ret .none) _ _ _ from wpAny_pure (wpAny_pure (.mk O x))))))
  · exact wpAny_pure (.mk O x)
theorem Sw.e_SubscriptA {value slice : Expr} {pos : Pos} {Φ : Value → SH → Prop}
    (x : Sw B A (eval value env) (fun o τ => Sw B A (eval slice env) (fun i τ => (∃ T id, typeLookup (.type T) "__getitem__" = Pure.pure (some (.builtin id)) ∧ TyIs B o T τ) ∧ Sw B A (getItem o i) Φ Ψ τ) Ψ τ) Ψ σ)
    (hs : ∀ o i, subscripted slice false o i = operate [o, i] (getItem o i) := by intro _ _; with_unfolding_all rfl) : Sw B A (eval (.Subscript value slice pos) env) Φ Ψ σ := by
  rw [eval_Subscript]
  refine Sw.bind (x.mono (fun o τ q => Sw.bind (Sw.holding (q.mono (fun i τ q => Sw.bind (Sw.standAt ?_)) fun _ _ q => q))) fun _ _ q => q)
  obtain ⟨⟨T, id, hl, hT⟩, q⟩ := q
  intro h g d k O
  refine wpAny_bind ?_
  have hT := hT h g d k O
  rw [getitemInPython_of_ne hT.not_modules]
  refine wpAny_bind (wpAny_specialOf hT hl ?_)
  refine wpAny_pure (wpAny_bind ?_)
  rw [hs]
  refine wpAny_operating (wpAny_mono (q h g d k O) (fun r s q => ?_) fun _ _ q => q)
  obtain ⟨τ, O, e, q⟩ := q
  obtain ⟨h, g, d, k, os⟩ := s
  cases e
  exact wpAny_bind (wpAny_mono (Sw.letTemp (Φ := fun _ τ => Φ r τ) q h g d k O) (fun _ _ q => wpAny_pure q) fun _ _ q => q)
-- lists
theorem Sw.appendL {l : Addr} {vs : List Value} {v : Value} {Φ : Value → SH → Prop} (u : Upd l (listP vs) (listP (vs ++ [v])) σ τ) (hl : vs.length < 100000) (x : Φ .none τ) : Sw B A (call (.builtin "list.append") [.ref l, v]) Φ Ψ σ := fun h g d k O => by
  obtain ⟨o, ho, n, rfl⟩ := O.get u.mem
  refine call_meets F.slot_list_append ⟨_, ho, rfl⟩ F.entry_list_append (F.args_list_append_2 _ _) (list_append l vs.toArray n v (by rw [sizeLine_eq]; simp; omega)) ⟨ho, ?_⟩
  refine .mk (O.update u (f := Obj.mapSeq (·.push v)) (fun o hp => ?_)) x
  obtain ⟨n, rfl⟩ := hp
  refine ⟨rfl, ?_⟩
  show ∃ m, _ = _
  simp only [Obj.mapSeq, List.push_toArray]
  exact ⟨_, rfl⟩
theorem Sw.popL {l : Addr} {vs : List Value} {v : Value} {Φ : Value → SH → Prop} (u : Upd l (listP (vs ++ [v])) (listP vs) σ τ) (hl : vs.length < 100000) (x : Φ v τ) : Sw B A (call (.builtin "list.pop") [.ref l]) Φ Ψ σ := fun h g d k O => by
  obtain ⟨o, ho, n, rfl⟩ := O.get u.mem
  refine call_meets F.slot_list_pop ⟨_, ho, rfl⟩ F.entry_list_pop (F.args_list_pop_1 _) (PySem.MeetsSeq.list_pop_last l (vs ++ [v]).toArray n v (by simp) (by rw [sizeLine_eq]; simp; omega)) ⟨ho, ?_⟩
  refine .mk (O.update u (fun o hp => ?_)) x
  obtain ⟨n, rfl⟩ := hp
  refine ⟨rfl, ?_⟩
  have e : (vs ++ [v]).toArray.eraseIdxIfInBounds ((vs ++ [v]).toArray.size - 1) = vs.toArray := by
    apply Array.toList_inj.mp
    simp [Array.toList_eraseIdxIfInBounds, List.eraseIdx_append_of_length_le]
  show ∃ m, _ = _
  simp only [Obj.mapSeq, e]
  exact ⟨_, rfl⟩
theorem Sw.truthyL {l : Addr} {vs : List Value} {Φ : Bool → SH → Prop} (m : Cl.o l (listP vs) ∈ σ) (hl : vs.length < 100000) (x : Φ (!vs.isEmpty) σ) : Sw B A (truthy (.ref l)) Φ Ψ σ := fun h g d k O =>
  wpAny_truthy_list (isList_of (O.get m)) (by simp; omega) (.mk O (by simpa using x))
theorem Sw.truthyD {d : Addr} {kvs : List (Str × Value)} {Φ : Bool → SH → Prop} (m : Cl.o d (dictP B.w kvs) ∈ σ) (hd : (d == sysModules) = false) (hl : kvs.length < 100000) (x : Φ (!kvs.isEmpty) σ) : Sw B A (truthy (.ref d)) Φ Ψ σ := fun h g dr k O => by
  obtain ⟨o, ho, hx, es, ep, h1, h2, h3, h4⟩ := O.get m
  exact wpAny_truthy_dict hd ⟨o, es, ep, ho, hx, h1, h2, h3, h4⟩ (by omega) (.mk O x)
-- ints and words
theorem Sw.addI {a b : Int} {j k : Tok} {Φ : Value → SH → Prop} (x : ∀ k, Φ (.int (a + b) k) σ) : Sw B A (binaryOp .Add (.int a j) (.int b k)) Φ Ψ σ := fun h g d tk O => PyProof.Rows.add_int (.mk O (x _))
theorem Sw.iaddI {a b : Int} {j k : Tok} {Φ : Value → SH → Prop} (x : ∀ k, Φ (.int (a + b) k) σ) : Sw B A (inplaceOp .Add (.int a j) (.int b k)) Φ Ψ σ := fun h g d tk O => PyProof.Rows.iadd_int (.mk O (x _))
theorem Sw.isubI {a b : Int} {j k : Tok} {Φ : Value → SH → Prop} (x : ∀ k, Φ (.int (a - b) k) σ) : Sw B A (inplaceOp .Sub (.int a j) (.int b k)) Φ Ψ σ := fun h g d tk O => PyProof.Rows.isub_int (.mk O (x _))
theorem Sw.iaddStr {a b : Str} {j k : Tok} {Φ : Value → SH → Prop} (x : ∀ k, Φ (.str (a ++ b) k) σ) (hl : a.length + b.length ≤ sizeLine) : Sw B A (inplaceOp .Add (.str a j) (.str b k)) Φ Ψ σ := fun h g d tk O => PyProof.Rows.iadd_str (fun t' tk' => .mk O (x t')) hl
end
end

-- F7
section
-- one encoder's closure: what _make_iterencode has made
structure EC where
  m : Addr
  ind : Value
  isep : Value
  ksep : Value
  dflt : Value
  ad : Str → Addr
  fn : Nat → Addr
  cd : Nat → Addr
  doc : Nat → Value
  pm : Nat → Value
  ctv : Nat → Value
@[reducible] def EC.cells (e : EC) : List (Str × Value) := [(Str.ofString "_default", e.dflt), (Str.ofString "_encode_int", .ref (e.fn 0)), (Str.ofString "_encoder", .ref 78), (Str.ofString "_indent", e.ind), (Str.ofString "_int_as_string_bitcount", .none),
  (Str.ofString "_item_separator", e.isep), (Str.ofString "_item_sort_key", .none), (Str.ofString "_iterencode", .ref (e.fn 4)), (Str.ofString "_iterencode_dict", .ref (e.fn 3)), (Str.ofString "_iterencode_list", .ref (e.fn 1)), (Str.ofString "_key_separator", e.ksep),
  (Str.ofString "_skipkeys", .bool false), (Str.ofString "_stringify_key", .ref (e.fn 2)), (Str.ofString "_tuple_as_array", .bool true), (Str.ofString "markers", .ref e.m)]
def mkSt (i : Nat) : Stmt := ((fnBody (topStmt 16))[i + 2]?).getD (.Pass default)
def stName : Stmt → Str
  | .FunctionDef n _ _ _ _ _ _ _ _ _ => n
  | _ => default
def mkQual (i : Nat) : Str := Str.ofString "_make_iterencode.<locals>." ++ stName (mkSt i)
def mkFs (i : Nat) : List Str := (((fnScope (mkSt i)).names.filter (·.2 == .free)).map (·.1)).reverse
@[reducible] def EC.clos (e : EC) (i : Nat) : List (Str × Addr) := (mkFs i).map fun x => (x, e.ad x)
@[reducible] def EC.ob (e : EC) (i : Nat) : Obj := fnMade (stName (mkSt i)) (mkQual i) (fnArgs (mkSt i)) (fnBody (mkSt i)) (fnScope (mkSt i)) (e.clos i) (e.doc i) (e.pm i) (e.cd i) (e.ctv i)
@[reducible] def EC.fd (e : EC) (i : Nat) : FuncData := fnX (stName (mkSt i)) (mkQual i) (fnArgs (mkSt i)) (fnBody (mkSt i)) (fnScope (mkSt i)) (e.clos i) .none .none (e.doc i) (e.pm i) none (.ref (e.cd i)) (e.ctv i)
structure EC.Gr (e : EC) (σ : SH) : Prop where
  cell : ∀ p ∈ e.cells, Cl.o (e.ad p.1) (cellP (some p.2)) ∈ σ
  fns : ∀ i, i < 5 → Cl.o (e.fn i) (eqP (e.ob i)) ∈ σ
  cds : ∀ i, i < 5 → Cl.o (e.cd i) (codeP (mkQual i)) ∈ σ
theorem EC.Gr.mono {e : EC} {σ τ : SH} (x : e.Gr σ) (h : ∀ c ∈ σ, c ∈ τ) : e.Gr τ := ⟨fun p hp => h _ (x.cell p hp), fun i hi => h _ (x.fns i hi), fun i hi => h _ (x.cds i hi)⟩
@[reducible] def eiKs : List Str := [Str.ofString "value", Str.ofString "skip_quoting"]
@[reducible] def liKs : List Str := ["lst", "_current_indent_level", "buf", "newline_indent", "separator", "first", "value", "chunks", "chunk"]
@[reducible] def diKs : List Str := ["dct", "_current_indent_level", "newline_indent", "item_separator", "first", "items", "k", "v", "key", "value", "chunks", "chunk"]
@[reducible] def itKs : List Str := ["o", "_current_indent_level", "chunk"]
theorem ei_b : okB (fnScope (mkSt 0)) eiKs (mkFs 0) false = true := by decide +kernel
theorem ei_c : noCellB (fnScope (mkSt 0)) = true := by decide +kernel
theorem li_b : okB (fnScope (mkSt 1)) liKs (mkFs 1) true = true := by decide +kernel
theorem li_c : noCellB (fnScope (mkSt 1)) = true := by decide +kernel
theorem di_b : okB (fnScope (mkSt 3)) diKs (mkFs 3) true = true := by decide +kernel
theorem di_c : noCellB (fnScope (mkSt 3)) = true := by decide +kernel
theorem it_b : okB (fnScope (mkSt 4)) itKs (mkFs 4) true = true := by decide +kernel
theorem it_c : noCellB (fnScope (mkSt 4)) = true := by decide +kernel
section
variable {B : Bx} {A : Around} {Ψ : Value → SH → Prop} {σ τ S R : SH} {env : Env} {e : EC}
theorem ei_ok (e : EC) : FnOk (e.fd 0) (fnBody (mkSt 0)) ["value"] eiKs false :=
  FnOk.of rfl rfl ei_b ei_c fun as h => by
    match as, h with
    | [a], _ => exact (by kernel_rfl : bindArgs (e.fd 0) ⟨[a], []⟩ = Pure.pure (([Str.ofString "value"] : List Str).zip [a]))
@[reducible] def genPs (x : Str) : List Str := [x, "_current_indent_level"]
theorem li_ok (e : EC) : FnOk (e.fd 1) (fnBody (mkSt 1)) (genPs "lst") liKs true :=
  FnOk.of rfl rfl li_b li_c fun as h => by
    match as, h with
    | [a, b], _ => exact (by kernel_rfl : bindArgs (e.fd 1) ⟨[a, b], []⟩ = Pure.pure ((genPs "lst").zip [a, b]))
theorem di_ok (e : EC) : FnOk (e.fd 3) (fnBody (mkSt 3)) (genPs "dct") diKs true :=
  FnOk.of rfl rfl di_b di_c fun as h => by
    match as, h with
    | [a, b], _ => exact (by kernel_rfl : bindArgs (e.fd 3) ⟨[a, b], []⟩ = Pure.pure ((genPs "dct").zip [a, b]))
theorem it_ok (e : EC) : FnOk (e.fd 4) (fnBody (mkSt 4)) (genPs "o") itKs true :=
  FnOk.of rfl rfl it_b it_c fun as h => by
    match as, h with
    | [a, b], _ => exact (by kernel_rfl : bindArgs (e.fd 4) ⟨[a, b], []⟩ = Pure.pure ((genPs "o").zip [a, b]))
theorem EC.here (gr : e.Gr σ) {i : Nat} (hi : i < 5) : FnHere B (e.fn i) (e.fd i) σ := fun h g O => by
  obtain ⟨o, ho, rfl⟩ := O.get (gr.fns i hi)
  obtain ⟨oc, hoc, vs, t, hd, hv⟩ := O.get (gr.cds i hi)
  exact ⟨⟨_, ho, rfl⟩, e.cd i, oc, vs, t, rfl, hoc, hd, hv⟩
theorem EC.envOk {i : Nat} {ks : List Str} {gen : Bool} (h : okB (fnScope (mkSt i)) ks (mkFs i) gen = true) (L a : Addr) : EnvOk (envF (e.fd i) L a) ks (mkFs i) := EnvOk.of rfl h
-- a closure's name
theorem zip_self (f : Str → Addr) : ∀ l : List Str, (l.map fun x => (x, f x)) = l.zip (l.map f)
  | [] => rfl
  | x :: l => by rw [List.map_cons, List.map_cons, List.zip_cons_cons, zip_self f l]
theorem CAt.map {f : Str → Addr} {x : Str} : ∀ {fs : List Str}, x ∈ fs → CAt x (f x) fs (fs.map f)
  | y :: fs, h => by
    rcases List.mem_cons.mp h with rfl | h
    · exact .head
    · exact .tail (CAt.map h)
theorem Sw.ldG {ks : List Str} {i : Nat} {x : Str} {v : Value} {pos : Pos} {L a : Addr} {Φ : Value → SH → Prop} (E : EnvOk (envF (e.fd i) L a) ks (mkFs i)) (gr : e.Gr R) (hR : ∀ c ∈ R, c ∈ σ) (hx : x ∈ mkFs i) (hv : (x, v) ∈ e.cells) (y : Φ v σ) :
    Sw B A (eval (.Name x pos) (envF (e.fd i) L a)) Φ Ψ σ :=
  Sw.ldc (cs := (mkFs i).map e.ad) (c := e.ad x) E (zip_self _ _) (CAt.map hx) (hR _ (gr.cell (x, v) hv)) y
end
end

end

section
local macro_rules | `(tactic| walk_at "mem") => `(tactic| with_reducible first | assumption | exact List.mem_cons_self | (refine' List.mem_append_right _ ?a; (case a => walk_at "mem")) | (refine' List.mem_append_left _ ?a; (case a => walk_at "mem")) | (refine' List.mem_cons_of_mem _ ?a; (case a => walk_at "mem")))
local macro_rules | `(tactic| walk_at "upd") => `(tactic| with_reducible first | exact Upd.head | (refine' Upd.tail ?a; (case a => walk_at "upd")))
local macro_rules | `(tactic| walk_at "del") => `(tactic| with_reducible first | exact Del.head | (refine' Del.tail ?a; (case a => walk_at "del")))
local macro_rules | `(tactic| walk_at "nat") => `(tactic| with_reducible first | exact NAt.head | (refine' NAt.tail ?a; (case a => walk_at "nat")))
local macro_rules | `(tactic| walk_at "nput") => `(tactic| with_reducible first | exact NPut.head | (refine' NPut.tail ?a; (case a => walk_at "nput")))
local macro_rules | `(tactic| walk_at "iv") => `(tactic| with_reducible first | exact IV.nil | (refine' IV.arg ?a; (case a => walk_at "iv")) | (refine' IV.rest ?a; (case a => walk_at "iv")))
local macro_rules | `(tactic| walk_at "sub") => `(tactic| with_reducible first | exact List.Sublist.refl _ | (refine' List.Sublist.cons _ ?a; (case a => walk_at "sub")) | (refine' List.Sublist.cons_cons _ ?a; (case a => walk_at "sub")))
local macro_rules | `(tactic| walk_at "cat") => `(tactic| with_reducible first | exact CAt.head | (refine' CAt.tail ?a; (case a => walk_at "cat")))
local macro_rules | `(tactic| walk_at "subp") => `(tactic| (refine Subp.of_cnt fun _ => ?_; simp only [cnt_append, cnt_cons, cnt_nil]; omega))
local macro_rules | `(tactic| walk_at "py1") => `(tactic| with_reducible first
  | refine Sw.execs_nil ?_
  | refine Sw.execs_cons ?_
  | refine ite_pos (c := true = true) rfl ?_
  | refine ite_neg (c := false = true) Bool.false_ne_true ?_
  | refine Sw.s_Assign_Name ?_
  | refine Sw.s_AugAssign_Name ?_
  | refine Sw.s_If ?_
  | refine Sw.s_Return ?_
  | refine Sw.s_Return0 ?_
  | refine Sw.s_Pass ?_
  | (refine' Sw.ldG ?e ?g ?r ?x ?v ?_; (case e => assumption); (case g => assumption); (case x => decide); (case v => walk_at "mem"); (case r => (intro _ _; walk_at "mem")))
  | refine Args.cons ?_
  | refine Args.nil ?_
  | refine callee_ok rfl ?_
  | refine Sw.s_Try ?_
  | refine Sw.e_Or ?_
  | refine Sw.e_And ?_
  | refine Sw.e_Bool1 ?_
  | refine Sw.isTrue_or ?_
  | refine Sw.isTrue_and ?_
  | refine Sw.isTrue_and0 ?_
  | refine Sw.isTrue_or0 ?_
  | refine Sw.e_IfExp ?_
  | refine Sw.e_Subscript ?_
  | refine Sw.e_Call_Name ?_
  | refine Sw.s_Expr ?_
  | refine Sw.s_For ?_
  | refine Sw.s_While ?_
  | (refine Sw.e_Const_int ?_; intro _)
  | (refine Sw.e_Const_str ?_; intro _)
  | refine Sw.e_Const_none ?_
  | refine Sw.e_Const_bool ?_
  | refine Sw.e_BinOp ?_
  | refine Sw.e_Compare ?_
  | refine Sw.e_UnaryOp ?_
  | refine Sw.isTrue_Compare ?_
  | refine Sw.isTrue_not ?_
  | refine Sw.isTrue_Name ?_
  | refine Sw.isTrue_Call ?_
  | refine Sw.isTrue_Attribute ?_
  | refine Sw.isTrue_Subscript ?_
  | refine Sw.truthy_bool ?_
  | refine Sw.assign_Name ?_
  | (refine' Sw.ld ?e ?a ?_; (case e => assumption); (case a => walk_at "nat"))
  | (refine' Sw.ldn ?e ?a ?_; (case e => assumption); (case a => walk_at "nat"))
  | (refine' Sw.st ?e ?p ?_; (case e => assumption); (case p => walk_at "nput"))
  | (refine' Sw.ldgE ?e ?x ?k ?_; (case e => assumption); (case k => walk_at "gl"); (case x => walk_at "mem"))
  | (refine' Sw.ldbE ?e ?x ?v ?k ?n ?_; (case e => assumption); (case v => walk_at "bl"); (case x => walk_at "mem"); (case k => kernel_rfl); (case n => decide))
  | (refine' Sw.ldc ?e ?h ?a ?m ?_; (case e => assumption); (case h => assumption); (case a => walk_at "cat"); (case m => walk_at "mem"))
  | (refine' Sw.stC ?e ?k ?h ?a ?u ?_; (case e => assumption); (case k => assumption); (case h => assumption); (case a => walk_at "cat"); (case u => walk_at "upd"))
  | (refine' Sw.ldg ?e ?k ?x ?g ?d ?_; (case e => walk_at "gl"); (case k => kernel_rfl); (case x => kernel_rfl); (case g => kernel_rfl); (case d => decide))
  | (refine' Sw.ldb ?e ?v ?n ?k ?x ?g ?b ?d ?_; (case v => walk_at "bl"); (case e => kernel_rfl); (case n => decide); (case k => kernel_rfl); (case x => kernel_rfl); (case g => kernel_rfl); (case b => kernel_rfl); (case d => decide)))
local macro_rules | `(tactic| walk_at "py") => `(tactic| repeat (first | walk_at "py1" | (dsimp only; walk_at "py1")))

-- B9
section
section
variable {B : Bx} {A : Around} {Ψ : Value → SH → Prop} {σ τ S : SH} {env : Env}
theorem PA.binds {α β : Type} {m : α} {t : Sem β} {Φ : β → SH → Prop} {s : Shared} (x : PA B (fun _ τ => Sw B A t Φ Ψ τ) m s) : wpAny B.M A t (PA B Φ) (PA B Ψ) s := by
  obtain ⟨τ, O, e, q⟩ := x
  obtain ⟨h, g, d, k, os⟩ := s
  cases e
  exact q h g d k O
theorem Args.cons {e : Expr} {es : List Expr} {Φ : List Value → SH → Prop} (x : Sw B A (eval e env) (fun v τ => Args B A Ψ env es (fun vs => Φ (v :: vs)) τ) Ψ σ) : Args B A Ψ env (e :: es) Φ σ := x
theorem Args.nil {Φ : List Value → SH → Prop} (x : Φ [] σ) : Args B A Ψ env [] Φ σ := x
theorem callee_ok {v : Value} {P : Prop} (h : calleeB v = true) (x : P) : calleeB v = true ∧ P := ⟨h, x⟩
theorem Sw.e_Or {e₁ e₂ : Expr} {rest : List Expr} {pos : Pos} {Φ : Value → SH → Prop}
    (x : Sw B A (eval e₁ env) (fun v τ => Sw B A (truthy v) (fun c τ => if c then Φ v τ else Sw B A (eval (.BoolOp .Or (e₂ :: rest) pos) env) Φ Ψ τ) Ψ τ) Ψ σ) : Sw B A (eval (.BoolOp .Or (e₁ :: e₂ :: rest) pos) env) Φ Ψ σ := fun h g d k O =>
  PyProof.Rows.BoolOp_or (wpAny_mono (x h g d k O) (fun v s q => wpAny_mono q.bind (fun c s q => by
    cases c with
    | true => exact q
    | false => exact PA.binds (m := false) q) fun _ _ q => q) fun _ _ q => q)
theorem Sw.e_And {e₁ e₂ : Expr} {rest : List Expr} {pos : Pos} {Φ : Value → SH → Prop}
    (x : Sw B A (eval e₁ env) (fun v τ => Sw B A (truthy v) (fun c τ => if c then Sw B A (eval (.BoolOp .And (e₂ :: rest) pos) env) Φ Ψ τ else Φ v τ) Ψ τ) Ψ σ) : Sw B A (eval (.BoolOp .And (e₁ :: e₂ :: rest) pos) env) Φ Ψ σ := fun h g d k O =>
  PyProof.Rows.BoolOp_and (wpAny_mono (x h g d k O) (fun v s q => wpAny_mono q.bind (fun c s q => by
    cases c with
    | true => exact PA.binds (m := true) q
    | false => exact q) fun _ _ q => q) fun _ _ q => q)
theorem Sw.e_Bool1 {op : BoolOp} {e : Expr} {pos : Pos} {Φ : Value → SH → Prop} (x : Sw B A (eval e env) Φ Ψ σ) : Sw B A (eval (.BoolOp op [e] pos) env) Φ Ψ σ := fun h g d k O => PyProof.Rows.BoolOp_one (x h g d k O)
theorem Sw.isTrue_or {e : Expr} {rest : List Expr} {pos : Pos} {whole : Sem Value} {Φ : Bool → SH → Prop}
    (x : Sw B A (isTrue e env (eval e env)) (fun c τ => if c then Φ true τ else Sw B A (isTrue (.BoolOp .Or rest pos) env whole) Φ Ψ τ) Ψ σ) : Sw B A (isTrue (.BoolOp .Or (e :: rest) pos) env whole) Φ Ψ σ := fun h g d k O =>
  PyProof.Rows.isTrue_or (wpAny_mono (x h g d k O) (fun c s q => by
    cases c with
    | true => exact q
    | false => exact PA.binds (m := false) q) fun _ _ q => q)
theorem Sw.isTrue_and {e : Expr} {rest : List Expr} {pos : Pos} {whole : Sem Value} {Φ : Bool → SH → Prop}
    (x : Sw B A (isTrue e env (eval e env)) (fun c τ => if c then Sw B A (isTrue (.BoolOp .And rest pos) env whole) Φ Ψ τ else Φ false τ) Ψ σ) : Sw B A (isTrue (.BoolOp .And (e :: rest) pos) env whole) Φ Ψ σ := fun h g d k O =>
  PyProof.Rows.isTrue_and (wpAny_mono (x h g d k O) (fun c s q => by
    cases c with
    | true => exact PA.binds (m := true) q
    | false => exact q) fun _ _ q => q)
theorem Sw.isTrue_and0 {pos : Pos} {whole : Sem Value} {Φ : Bool → SH → Prop} (x : Φ true σ) : Sw B A (isTrue (.BoolOp .And [] pos) env whole) Φ Ψ σ := fun h g d k O => PyProof.Rows.isTrue_and_nil (.mk O x)
theorem Sw.isTrue_or0 {pos : Pos} {whole : Sem Value} {Φ : Bool → SH → Prop} (x : Φ false σ) : Sw B A (isTrue (.BoolOp .Or [] pos) env whole) Φ Ψ σ := fun h g d k O => PyProof.Rows.isTrue_or_nil (.mk O x)
theorem Sw.e_IfExp {test body orelse : Expr} {pos : Pos} {Φ : Value → SH → Prop}
    (x : Sw B A (isTrue test env (eval test env)) (fun c τ => if c then Sw B A (eval body env) Φ Ψ τ else Sw B A (eval orelse env) Φ Ψ τ) Ψ σ) : Sw B A (eval (.IfExp test body orelse pos) env) Φ Ψ σ := fun h g d k O =>
  PyProof.Rows.IfExp_ (wpAny_mono (x h g d k O) (fun c s q => by
    cases c with
    | true => exact PA.binds (m := true) q
    | false => exact PA.binds (m := false) q) fun _ _ q => q)
end
end

end

section
local macro_rules | `(tactic| walk_at "mem") => `(tactic| with_reducible first | assumption | exact List.mem_cons_self | (refine' List.mem_append_right _ ?a; (case a => walk_at "mem")) | (refine' List.mem_append_left _ ?a; (case a => walk_at "mem")) | (refine' List.mem_cons_of_mem _ ?a; (case a => walk_at "mem")))
local macro_rules | `(tactic| walk_at "upd") => `(tactic| with_reducible first | exact Upd.head | (refine' Upd.tail ?a; (case a => walk_at "upd")))
local macro_rules | `(tactic| walk_at "del") => `(tactic| with_reducible first | exact Del.head | (refine' Del.tail ?a; (case a => walk_at "del")))
local macro_rules | `(tactic| walk_at "nat") => `(tactic| with_reducible first | exact NAt.head | (refine' NAt.tail ?a; (case a => walk_at "nat")))
local macro_rules | `(tactic| walk_at "nput") => `(tactic| with_reducible first | exact NPut.head | (refine' NPut.tail ?a; (case a => walk_at "nput")))
local macro_rules | `(tactic| walk_at "iv") => `(tactic| with_reducible first | exact IV.nil | (refine' IV.arg ?a; (case a => walk_at "iv")) | (refine' IV.rest ?a; (case a => walk_at "iv")))
local macro_rules | `(tactic| walk_at "sub") => `(tactic| with_reducible first | exact List.Sublist.refl _ | (refine' List.Sublist.cons _ ?a; (case a => walk_at "sub")) | (refine' List.Sublist.cons_cons _ ?a; (case a => walk_at "sub")))
local macro_rules | `(tactic| walk_at "cat") => `(tactic| with_reducible first | exact CAt.head | (refine' CAt.tail ?a; (case a => walk_at "cat")))
local macro_rules | `(tactic| walk_at "subp") => `(tactic| (refine Subp.of_cnt fun _ => ?_; simp only [cnt_append, cnt_cons, cnt_nil]; omega))
local macro_rules | `(tactic| walk_at "py1") => `(tactic| with_reducible first
  | refine Sw.execs_nil ?_
  | refine Sw.execs_cons ?_
  | refine ite_pos (c := true = true) rfl ?_
  | refine ite_neg (c := false = true) Bool.false_ne_true ?_
  | refine Sw.s_Assign_Name ?_
  | refine Sw.s_AugAssign_Name ?_
  | refine Sw.s_If ?_
  | refine Sw.s_Return ?_
  | refine Sw.s_Return0 ?_
  | refine Sw.s_Pass ?_
  | (refine' Sw.ldG ?e ?g ?r ?x ?v ?_; (case e => assumption); (case g => assumption); (case x => decide); (case v => walk_at "mem"); (case r => (intro _ _; walk_at "mem")))
  | refine Args.cons ?_
  | refine Args.nil ?_
  | refine callee_ok rfl ?_
  | refine Sw.s_Try ?_
  | refine Sw.e_Or ?_
  | refine Sw.e_And ?_
  | refine Sw.e_Bool1 ?_
  | refine Sw.isTrue_or ?_
  | refine Sw.isTrue_and ?_
  | refine Sw.isTrue_and0 ?_
  | refine Sw.isTrue_or0 ?_
  | refine Sw.e_IfExp ?_
  | refine Sw.e_Subscript ?_
  | refine Sw.e_Call_Name ?_
  | refine Sw.s_Expr ?_
  | refine Sw.s_For ?_
  | refine Sw.s_While ?_
  | (refine Sw.e_Const_int ?_; intro _)
  | (refine Sw.e_Const_str ?_; intro _)
  | refine Sw.e_Const_none ?_
  | refine Sw.e_Const_bool ?_
  | refine Sw.e_BinOp ?_
  | refine Sw.e_Compare ?_
  | refine Sw.e_UnaryOp ?_
  | refine Sw.isTrue_Compare ?_
  | refine Sw.isTrue_not ?_
  | refine Sw.isTrue_Name ?_
  | refine Sw.isTrue_Call ?_
  | refine Sw.isTrue_Attribute ?_
  | refine Sw.isTrue_Subscript ?_
  | refine Sw.truthy_bool ?_
  | refine Sw.assign_Name ?_
  | (refine' Sw.ld ?e ?a ?_; (case e => assumption); (case a => walk_at "nat"))
  | (refine' Sw.ldn ?e ?a ?_; (case e => assumption); (case a => walk_at "nat"))
  | (refine' Sw.st ?e ?p ?_; (case e => assumption); (case p => walk_at "nput"))
  | (refine' Sw.ldgE ?e ?x ?k ?_; (case e => assumption); (case k => walk_at "gl"); (case x => walk_at "mem"))
  | (refine' Sw.ldbE ?e ?x ?v ?k ?n ?_; (case e => assumption); (case v => walk_at "bl"); (case x => walk_at "mem"); (case k => kernel_rfl); (case n => decide))
  | (refine' Sw.ldc ?e ?h ?a ?m ?_; (case e => assumption); (case h => assumption); (case a => walk_at "cat"); (case m => walk_at "mem"))
  | (refine' Sw.stC ?e ?k ?h ?a ?u ?_; (case e => assumption); (case k => assumption); (case h => assumption); (case a => walk_at "cat"); (case u => walk_at "upd"))
  | (refine' Sw.ldg ?e ?k ?x ?g ?d ?_; (case e => walk_at "gl"); (case k => kernel_rfl); (case x => kernel_rfl); (case g => kernel_rfl); (case d => decide))
  | (refine' Sw.ldb ?e ?v ?n ?k ?x ?g ?b ?d ?_; (case v => walk_at "bl"); (case e => kernel_rfl); (case n => decide); (case k => kernel_rfl); (case x => kernel_rfl); (case g => kernel_rfl); (case b => kernel_rfl); (case d => decide)))
local macro_rules | `(tactic| walk_at "py") => `(tactic| repeat (first | walk_at "py1" | (dsimp only; walk_at "py1")))

-- F8
section
theorem b_str' : bootBuiltins (Str.ofString "str") = some (.type "str") := by decide +kernel
local macro_rules | `(tactic| walk_at "bl") => `(tactic| with_reducible first | exact b_str')
section
variable {B : Bx} {A : Around} {Ψ : Value → SH → Prop} {σ τ S R : SH} {env : Env} {e : EC}
-- what an int word is told as
inductive IntOk : Int → Str → Prop
  | p : IntOk 7 (Str.ofString "7")
  | m : IntOk (-12) (Str.ofString "-12")
local macro_rules | `(tactic| x_close) => `(tactic| first | exact x_endS0 (by assumption) (by kernel_rfl) (by assumption) | exact x_endS (by assumption) (by assumption) (by kernel_rfl) (by assumption))
theorem str_7 {k : Tok} {Φ : Value → SH → Prop} (hh : A.handled = none) (hd : A.depth ≤ 690) (hu : A.units ≤ 9000) (x : ∀ k, Φ (.str (Str.ofString "7") k) σ) : Sw B A (call (.type "str") [.int 7 k]) Φ Ψ σ := fun h g d tk O => by
  refine wpAny_wide hh hd hu ?_
  have KX := x_kin O
  show wpAny (model prog B.w) _ _ _ _ _
  x_run
theorem str_12 {k : Tok} {Φ : Value → SH → Prop} (hh : A.handled = none) (hd : A.depth ≤ 690) (hu : A.units ≤ 9000) (x : ∀ k, Φ (.str (Str.ofString "-12") k) σ) : Sw B A (call (.type "str") [.int (-12) k]) Φ Ψ σ := fun h g d tk O => by
  refine wpAny_wide hh hd hu ?_
  have KX := x_kin O
  show wpAny (model prog B.w) _ _ _ _ _
  x_run
theorem str_int {i : Int} {s : Str} {k : Tok} {Φ : Value → SH → Prop} (hi : IntOk i s) (hh : A.handled = none) (hd : A.depth ≤ 690) (hu : A.units ≤ 9000) (x : ∀ k, Φ (.str s k) σ) : Sw B A (call (.type "str") [.int i k]) Φ Ψ σ := by
  cases hi with
  | p => exact str_7 hh hd hu x
  | m => exact str_12 hh hd hu x
theorem ei_call {i : Int} {s : Str} {k : Tok} {n : Nat} {Φ : Value → SH → Prop} (gr : e.Gr σ) (hi : IntOk i s) (hh : A.handled = none) (hr : Roomy A (n + 1)) (x : ∀ k, Φ (.str s k) σ) : Sw B A (call (.ref (e.fn 0)) [.int i k]) Φ Ψ σ := by
  refine' Sw.callF (EC.here gr (by decide)) (ei_ok e) (hr.le (by omega)) ?iv ?_
  case iv => walk_at "iv"
  intro L
  have E := EC.envOk (e := e) ei_b L (e.fn 0)
  have hr' := hr.deeper (env := envF (e.fd 0) L (e.fn 0))
  have hh' : (A.deeper (envF (e.fd 0) L (e.fn 0))).handled = none := hh
  refine Sw.execs_cons ?_
  walk_at "py"
  refine Sw.is_plain rfl ?_
  walk_at "py"
  rw [show (Value.none == Value.none) = true from rfl]
  walk_at "py"
  refine ⟨trivial, ?_⟩
  refine str_int hi hh' hr'.d hr'.u ?_
  intro k2
  exact ⟨σ, by walk_at "sub", x _⟩
end
end

-- F9
section
def Isi (B : Bx) (v c : Value) (b : Bool) (σ : SH) : Prop := ∀ (A : Around) (Ψ : Value → SH → Prop) (Φ : Value → SH → Prop), A.handled = none → A.depth ≤ 690 → A.units ≤ 9000 → Φ (.bool b) σ → Sw B A (call (.builtin "isinstance") [v, c]) Φ Ψ σ
section
variable {B : Bx} {A : Around} {Ψ : Value → SH → Prop} {σ τ S : SH} {Φ : Value → SH → Prop}
theorem x_endB0 {b b' : Bool} {h : Heap} {g : Array GenState} {d : Drawn} {k : Tok} (O : Own B.w B.G h g σ) (e : b = b') (x : Φ (.bool b') σ) : PA B Φ (.bool b) ⟨h, g, d, k, B.os⟩ := by subst e; exact .mk O x
theorem x_endB {b b' : Bool} {h h' : Heap} {g : Array GenState} {d : Drawn} {k : Tok} {news : List (Addr × Obj)} (O : Own B.w B.G h g σ) (D : Mem h h' [] news) (e : b = b') (x : Φ (.bool b') σ) : PA B Φ (.bool b) ⟨h', g, d, k, B.os⟩ := by subst e; exact .mk (x_keeps O D) x
local macro_rules | `(tactic| x_close) => `(tactic| first | exact x_endB0 (by assumption) (by kernel_rfl) (by assumption) | exact x_endB (by assumption) (by assumption) (by kernel_rfl) (by assumption))
theorem isi_none_str : Isi B (.none) (.type "str") false σ := fun A Ψ Φ hh hd hu x h g d tk O => by
  refine wpAny_wide hh hd hu ?_
  have KX := x_kin O
  show wpAny (model prog B.w) _ _ _ _ _
  x_run
theorem isi_bool_str : Isi B (.bool true) (.type "str") false σ := fun A Ψ Φ hh hd hu x h g d tk O => by
  refine wpAny_wide hh hd hu ?_
  have KX := x_kin O
  show wpAny (model prog B.w) _ _ _ _ _
  x_run
theorem isi_int_str {i : Int} {k : Tok} : Isi B (.int i k) (.type "str") false σ := fun A Ψ Φ hh hd hu x h g d tk O => by
  refine wpAny_wide hh hd hu ?_
  have KX := x_kin O
  show wpAny (model prog B.w) _ _ _ _ _
  x_run
theorem isi_str_str {s : Str} {k : Tok} : Isi B (.str s k) (.type "str") true σ := fun A Ψ Φ hh hd hu x h g d tk O => by
  refine wpAny_wide hh hd hu ?_
  have KX := x_kin O
  show wpAny (model prog B.w) _ _ _ _ _
  x_run
theorem isi_none_raw : Isi B (.none) (.ref 48) false σ := fun A Ψ Φ hh hd hu x h g d tk O => by
  refine wpAny_wide hh hd hu ?_
  have KX := x_kin O
  show wpAny (model prog B.w) _ _ _ _ _
  x_run
theorem isi_bool_raw : Isi B (.bool true) (.ref 48) false σ := fun A Ψ Φ hh hd hu x h g d tk O => by
  refine wpAny_wide hh hd hu ?_
  have KX := x_kin O
  show wpAny (model prog B.w) _ _ _ _ _
  x_run
theorem isi_int_raw {i : Int} {k : Tok} : Isi B (.int i k) (.ref 48) false σ := fun A Ψ Φ hh hd hu x h g d tk O => by
  refine wpAny_wide hh hd hu ?_
  have KX := x_kin O
  show wpAny (model prog B.w) _ _ _ _ _
  x_run
theorem isi_bool_bool : Isi B (.bool true) (.type "bool") true σ := fun A Ψ Φ hh hd hu x h g d tk O => by
  refine wpAny_wide hh hd hu ?_
  have KX := x_kin O
  show wpAny (model prog B.w) _ _ _ _ _
  x_run
theorem isi_int_bool {i : Int} {k : Tok} : Isi B (.int i k) (.type "bool") false σ := fun A Ψ Φ hh hd hu x h g d tk O => by
  refine wpAny_wide hh hd hu ?_
  have KX := x_kin O
  show wpAny (model prog B.w) _ _ _ _ _
  x_run
theorem isi_int_int {i : Int} {k : Tok} : Isi B (.int i k) (.type "int") true σ := fun A Ψ Φ hh hd hu x h g d tk O => by
  refine wpAny_wide hh hd hu ?_
  have KX := x_kin O
  show wpAny (model prog B.w) _ _ _ _ _
  x_run
theorem isi_list_str {a : Addr} {vs : List Value} (m : Cl.o a (listP vs) ∈ σ) : Isi B (.ref a) (.type "str") false σ := fun A Ψ Φ hh hd hu x h g d tk O => by
  refine wpAny_wide hh hd hu ?_
  have KX := x_kin O
  obtain ⟨ol, e1, nl, rfl⟩ := O.get m
  show wpAny (model prog B.w) _ _ _ _ _
  x_run
theorem isi_list_raw {a : Addr} {vs : List Value} (m : Cl.o a (listP vs) ∈ σ) : Isi B (.ref a) (.ref 48) false σ := fun A Ψ Φ hh hd hu x h g d tk O => by
  refine wpAny_wide hh hd hu ?_
  have KX := x_kin O
  obtain ⟨ol, e1, nl, rfl⟩ := O.get m
  show wpAny (model prog B.w) _ _ _ _ _
  x_run
theorem isi_list_bool {a : Addr} {vs : List Value} (m : Cl.o a (listP vs) ∈ σ) : Isi B (.ref a) (.type "bool") false σ := fun A Ψ Φ hh hd hu x h g d tk O => by
  refine wpAny_wide hh hd hu ?_
  have KX := x_kin O
  obtain ⟨ol, e1, nl, rfl⟩ := O.get m
  show wpAny (model prog B.w) _ _ _ _ _
  x_run
theorem isi_list_int {a : Addr} {vs : List Value} (m : Cl.o a (listP vs) ∈ σ) : Isi B (.ref a) (.type "int") false σ := fun A Ψ Φ hh hd hu x h g d tk O => by
  refine wpAny_wide hh hd hu ?_
  have KX := x_kin O
  obtain ⟨ol, e1, nl, rfl⟩ := O.get m
  show wpAny (model prog B.w) _ _ _ _ _
  x_run
theorem isi_dict_str {a : Addr} {kvs : List (Str × Value)} (m : Cl.o a (dictP B.w kvs) ∈ σ) : Isi B (.ref a) (.type "str") false σ := fun A Ψ Φ hh hd hu x h g d tk O => by
  refine wpAny_wide hh hd hu ?_
  have KX := x_kin O
  obtain ⟨⟨oc, od, odt, osl⟩, e1, ⟨h1, h2, h3⟩, es, ep, h4, _⟩ := O.get m
  dsimp only at h1 h2 h3 h4
  subst h1 h2 h3 h4
  show wpAny (model prog B.w) _ _ _ _ _
  x_run
theorem isi_dict_raw {a : Addr} {kvs : List (Str × Value)} (m : Cl.o a (dictP B.w kvs) ∈ σ) : Isi B (.ref a) (.ref 48) false σ := fun A Ψ Φ hh hd hu x h g d tk O => by
  refine wpAny_wide hh hd hu ?_
  have KX := x_kin O
  obtain ⟨⟨oc, od, odt, osl⟩, e1, ⟨h1, h2, h3⟩, es, ep, h4, _⟩ := O.get m
  dsimp only at h1 h2 h3 h4
  subst h1 h2 h3 h4
  show wpAny (model prog B.w) _ _ _ _ _
  x_run
theorem isi_dict_bool {a : Addr} {kvs : List (Str × Value)} (m : Cl.o a (dictP B.w kvs) ∈ σ) : Isi B (.ref a) (.type "bool") false σ := fun A Ψ Φ hh hd hu x h g d tk O => by
  refine wpAny_wide hh hd hu ?_
  have KX := x_kin O
  obtain ⟨⟨oc, od, odt, osl⟩, e1, ⟨h1, h2, h3⟩, es, ep, h4, _⟩ := O.get m
  dsimp only at h1 h2 h3 h4
  subst h1 h2 h3 h4
  show wpAny (model prog B.w) _ _ _ _ _
  x_run
theorem isi_dict_int {a : Addr} {kvs : List (Str × Value)} (m : Cl.o a (dictP B.w kvs) ∈ σ) : Isi B (.ref a) (.type "int") false σ := fun A Ψ Φ hh hd hu x h g d tk O => by
  refine wpAny_wide hh hd hu ?_
  have KX := x_kin O
  obtain ⟨⟨oc, od, odt, osl⟩, e1, ⟨h1, h2, h3⟩, es, ep, h4, _⟩ := O.get m
  dsimp only at h1 h2 h3 h4
  subst h1 h2 h3 h4
  show wpAny (model prog B.w) _ _ _ _ _
  x_run
theorem isi_list_list {a : Addr} {vs : List Value} (m : Cl.o a (listP vs) ∈ σ) : Isi B (.ref a) (.type "list") true σ := fun A Ψ Φ hh hd hu x h g d tk O => by
  refine wpAny_wide hh hd hu ?_
  have KX := x_kin O
  obtain ⟨ol, e1, nl, rfl⟩ := O.get m
  show wpAny (model prog B.w) _ _ _ _ _
  x_run
theorem isi_dict_list {a : Addr} {kvs : List (Str × Value)} (m : Cl.o a (dictP B.w kvs) ∈ σ) : Isi B (.ref a) (.type "list") false σ := fun A Ψ Φ hh hd hu x h g d tk O => by
  refine wpAny_wide hh hd hu ?_
  have KX := x_kin O
  obtain ⟨⟨oc, od, odt, osl⟩, e1, ⟨h1, h2, h3⟩, es, ep, h4, _⟩ := O.get m
  dsimp only at h1 h2 h3 h4
  subst h1 h2 h3 h4
  show wpAny (model prog B.w) _ _ _ _ _
  x_run
theorem isi_dict_tuple {a : Addr} {kvs : List (Str × Value)} (m : Cl.o a (dictP B.w kvs) ∈ σ) : Isi B (.ref a) (.type "tuple") false σ := fun A Ψ Φ hh hd hu x h g d tk O => by
  refine wpAny_wide hh hd hu ?_
  have KX := x_kin O
  obtain ⟨⟨oc, od, odt, osl⟩, e1, ⟨h1, h2, h3⟩, es, ep, h4, _⟩ := O.get m
  dsimp only at h1 h2 h3 h4
  subst h1 h2 h3 h4
  show wpAny (model prog B.w) _ _ _ _ _
  x_run
theorem isi_dict_dict {a : Addr} {kvs : List (Str × Value)} (m : Cl.o a (dictP B.w kvs) ∈ σ) : Isi B (.ref a) (.type "dict") true σ := fun A Ψ Φ hh hd hu x h g d tk O => by
  refine wpAny_wide hh hd hu ?_
  have KX := x_kin O
  obtain ⟨⟨oc, od, odt, osl⟩, e1, ⟨h1, h2, h3⟩, es, ep, h4, _⟩ := O.get m
  dsimp only at h1 h2 h3 h4
  subst h1 h2 h3 h4
  show wpAny (model prog B.w) _ _ _ _ _
  x_run
end
end

-- T1
section
-- the law's things: which are dicts, what each holds
structure Th where
  sz : Nat
  ad : Nat → Addr
  isD : Nat → Bool
  pt : Nat → List Int
  tok : Nat → Tok
def wordV (t : Th) : Nat → Value
  | 0 => .none
  | 1 => .int 7 (t.tok 1)
  | 2 => .str (Str.ofString "a\"") (t.tok 2)
  | 3 => .bool true
  | 4 => .int (-12) (t.tok 4)
  | _ => .str (Str.ofString "") (t.tok 5)
def wordT : Nat → Str
  | 0 => Str.ofString "null"
  | 1 => Str.ofString "7"
  | 2 => Str.ofString "\"a\\\"\""
  | 3 => Str.ofString "true"
  | 4 => Str.ofString "-12"
  | _ => Str.ofString "\"\""
def nameK : Nat → Str
  | 0 => Str.ofString "b"
  | 1 => Str.ofString ""
  | _ => Str.ofString "a"
def wix (p : Int) : Nat := (-1 - p).toNat
def Th.pv (t : Th) (p : Int) : Value := if p < 0 then wordV t (wix p) else .ref (t.ad p.toNat)
def Th.kv (t : Th) (i : Nat) : List (Str × Value) := (t.pt i).zipIdx.map fun x => (nameK x.2, t.pv x.1)
def Th.word (t : Th) (w : World) (i : Nat) : Obj → Prop := if t.isD i then dictP w (t.kv i) else listP ((t.pt i).map t.pv)
-- what holds of them
structure Th.Ok (t : Th) : Prop where
  inj : ∀ i j, i < t.sz → j < t.sz → t.ad i = t.ad j → i = j
  len : ∀ i, i < t.sz → (t.pt i).length ≤ 3
  low : ∀ i, i < t.sz → ∀ p ∈ t.pt i, -6 ≤ p ∧ p < t.sz
  sys : ∀ i, i < t.sz → (t.ad i == sysModules) = false
def rep (s : Str) : Nat → Str
  | 0 => Str.ofString ""
  | n + 1 => rep s n ++ s
def nlI (ind : Option Str) (n : Nat) : Str := match ind with | none => Str.ofString "" | some s => Str.ofString "\n" ++ rep s n
def sepI (ind : Option Str) : Str := match ind with | none => Str.ofString ", " | some _ => Str.ofString ","
def closeI (ind : Option Str) (deep : Nat) (last : Str) : List Str := match ind with | none => [last] | some s => [Str.ofString "\n" ++ rep s deep, last]
-- the pieces of a list's parts; g tells a part that is a thing
def partsL (buf0 sep : Str) (g : Nat → List Str × Bool) : List Int → Bool → List Str × Bool
  | [], _ => ([], false)
  | p :: ps, first =>
    let buf := if first then buf0 else sep
    if p < 0 then ((buf ++ wordT (wix p)) :: (partsL buf0 sep g ps false).1, (partsL buf0 sep g ps false).2)
    else if (g p.toNat).2 then (buf :: (g p.toNat).1, true)
    else (buf :: ((g p.toNat).1 ++ (partsL buf0 sep g ps false).1), (partsL buf0 sep g ps false).2)
def keyT (j : Nat) : Str := Str.ofString "\"" ++ nameK j ++ Str.ofString "\""
def partsD (sep : Str) (g : Nat → List Str × Bool) : List Int → Nat → List Str × Bool
  | [], _ => ([], false)
  | p :: ps, j =>
    let pre := (if j = 0 then [] else [sep]) ++ [keyT j, Str.ofString ": "]
    if p < 0 then (pre ++ wordT (wix p) :: (partsD sep g ps (j + 1)).1, (partsD sep g ps (j + 1)).2)
    else if (g p.toNat).2 then (pre ++ (g p.toNat).1, true)
    else (pre ++ ((g p.toNat).1 ++ (partsD sep g ps (j + 1)).1), (partsD sep g ps (j + 1)).2)
def told (t : Th) (ind : Option Str) : Nat → Nat → Nat → List Nat → List Str × Bool
  | 0, _, _, _ => ([], true)
  | f + 1, i, deep, way =>
    if (t.pt i).isEmpty then ([if t.isD i then Str.ofString "{}" else Str.ofString "[]"], false)
    else if i ∈ way then ([], true)
    else
      let g := fun j => told t ind f j (deep + 1) (way ++ [i])
      let nl := nlI ind (deep + 1)
      let sep := sepI ind ++ nl
      if t.isD i then
        let r := partsD sep g (t.pt i) 0
        let head := Str.ofString "{" :: (match ind with | none => [] | some _ => [nl])
        if r.2 then (head ++ r.1, true) else (head ++ r.1 ++ closeI ind deep (Str.ofString "}"), false)
      else
        let r := partsL (Str.ofString "[" ++ nl) sep g (t.pt i) true
        if r.2 then (r.1, true) else (r.1 ++ closeI ind deep (Str.ofString "]"), false)
end

-- G1
section
structure Wk (e : EC) (t : Th) (w : World) (R : SH) : Prop where
  gr : e.Gr R
  th : ∀ i, i < t.sz → Cl.o (t.ad i) (t.word w i) ∈ R
theorem Wk.mono {e : EC} {t : Th} {w : World} {R R' : SH} (x : Wk e t w R) (h : ∀ c ∈ R, c ∈ R') : Wk e t w R' := ⟨x.gr.mono h, fun i hi => h _ (x.th i hi)⟩
def indV (ind : Option Str) (k : Tok) : Value := match ind with | none => .none | some s => .str s k
structure EOk (e : EC) (ind : Option Str) : Prop where
  indt : ∃ k, e.ind = indV ind k
  isep : ∃ k, e.isep = .str (sepI ind) k
  ksep : ∃ k, e.ksep = .str (Str.ofString ": ") k
  short : ∀ s, ind = some s → s.length ≤ 2
abbrev refs (t : Th) (way : List Nat) : List Value := (way.map t.ad).map .ref
@[reducible] def liVs (a : Value) (lvl : Int) (k : Tok) : List (Option Value) := [some a, some (.int lvl k), none, none, none, none, none, none, none]
section
variable {B : Bx} {A : Around} {σ τ S R T : SH} {e : EC} {t : Th} {ind : Option Str}
theorem li_emptyA {i : Nat} {deep : Int} {way : List Nat} {L : Addr} {k : Tok} {n : Nat} (W : Wk e t B.w T) (hi : i < t.sz) (hl : t.isD i = false) (hp : t.pt i = []) :
    Emits B I73 T n false [.o e.m (listP (refs t way))] [Str.ofString "[]"] (.func (fnBody (mkSt 1)) (envF (e.fd 1) L (e.fn 1))) (denote table (.func (fnBody (mkSt 1)) (envF (e.fd 1) L (e.fn 1)))) []
      [.o L (frameP liKs (liVs (.ref (t.ad i)) deep k)), .o e.m (listP (refs t way))] := by
  refine Emits.start (Emits.iff.mpr fun A l R S hA hT hI => ?_)
  have E := EC.envOk (e := e) li_b L (e.fn 1)
  have hth := hT _ (W.th i hi)
  simp only [Th.word, hl, hp, Bool.false_eq_true, if_false, List.map_nil] at hth
  simp only [List.cons_append, List.nil_append]
  refine Sg.cons (Sg.If ?_)
  rw [over_func]
  walk_at "py"
  refine Sw.truthyL (vs := []) (by walk_at "mem") (by decide) ?_
  rw [if_pos (by rfl)]
  refine Sg.cons (Sg.tell rfl rfl ?_)
  rw [over_func]
  refine Sw.e_Const_str ?_
  intro tok
  refine ⟨tok, [.o L (frameP liKs (liVs (.ref (t.ad i)) deep k)), .o e.m (listP (refs t way))], S, rfl, hI, by walk_at "subp", ?_⟩
  refine Emits.iff.mpr fun A l R S hA hT hI => ?_
  refine Sg.cons (Sg.stm ?_)
  refine Sw.s_Return0 ?_
  refine Sg.end_ (r := .ok (.ret .none)) ?_
  exact ⟨S, hI, _, rfl, rfl, by walk_at "subp"⟩
theorem Th.solid (W : Wk e t B.w R) {i : Nat} (hi : i < t.sz) (hR : ∀ c ∈ R, c ∈ σ) : Solid (t.ad i) σ := by
  refine ⟨_, hR _ (W.th i hi), fun o ho => ?_⟩
  unfold Th.word at ho
  split at ho
  · intro q; rw [ho.1.1] at q; exact absurd (Value.type.inj q) (by decide)
  · obtain ⟨n, rfl⟩ := ho; intro q; exact absurd (Value.type.inj q) (by decide)
theorem g_is_open' (w : World) : nsIn (KF w) mainGlobals (Str.ofString "is_open") = some (some (.ref 136)) := by kernel_rfl
theorem b_VE : bootBuiltins (Str.ofString "ValueError") = some (.type "ValueError") := by decide +kernel
theorem callee_K {a : Addr} {o : Obj} {fd : FuncData} (e : (KF B.w).lookup a = some o) (hd : o.data = .func fd) : Callee B (.ref a) σ := fun h g O => ⟨o, fd, O.keep _ _ (O.wf.K _ _ e), hd⟩
local macro_rules | `(tactic| walk_at "gl") => `(tactic| with_reducible first | exact g_is_open' _)
local macro_rules | `(tactic| walk_at "bl") => `(tactic| with_reducible first | exact b_VE)
theorem li_ringA {i : Nat} {deep : Int} {way : List Nat} {L : Addr} {k : Tok} {n : Nat} {fin : SH} (W : Wk e t B.w T) (hi : i < t.sz) (hl : t.isD i = false) (hp : t.pt i ≠ []) (hlen : (t.pt i).length ≤ 3) (hw : i ∈ way) (hways : ∀ j ∈ way, j < t.sz) :
    Emits B I73 T (n + 8) true fin [] (.func (fnBody (mkSt 1)) (envF (e.fd 1) L (e.fn 1))) (denote table (.func (fnBody (mkSt 1)) (envF (e.fd 1) L (e.fn 1)))) []
      [.o L (frameP liKs (liVs (.ref (t.ad i)) deep k)), .o e.m (listP (refs t way))] := by
  refine Emits.start (Emits.iff.mpr fun A l R S hA hT hI => ?_)
  have E := EC.envOk (e := e) li_b L (e.fn 1)
  have W' := W.mono hT
  have gr := W'.gr
  have hth := W'.th i hi
  simp only [Th.word, hl, Bool.false_eq_true, if_false] at hth
  simp only [List.cons_append, List.nil_append]
  have hr' : Roomy (A.deeper (envF (e.fd 1) L (e.fn 1))) (n + 7) := hA.room.deeper
  have hh' : (A.deeper (envF (e.fd 1) L (e.fn 1))).handled = none := hA.hand
  refine Sg.cons (Sg.If ?_)
  rw [over_func]
  walk_at "py"
  refine Sw.truthyL (vs := (t.pt i).map t.pv) (by walk_at "mem") (by simp; omega) ?_
  have he : (!!((t.pt i).map t.pv).isEmpty) = false := by simp [hp]
  rw [he]
  refine ite_neg Bool.false_ne_true ?_
  refine Sg.nil ?_
  refine Sg.cons (Sg.If ?_)
  rw [over_func]
  walk_at "py"
  refine Sw.isnot_plain rfl ?_
  walk_at "py"
  refine ite_pos (by rfl) ?_
  refine Sg.cons (Sg.If ?_)
  rw [over_func]
  walk_at "py"
  refine ⟨callee_K rfl rfl, ?_⟩
  refine isOpen_call (ms := way.map t.ad) (hr'.le (by omega)) hh' (by walk_at "mem") ?_ ?_
  · intro a ha
    have : ∃ j, j < t.sz ∧ a = t.ad j := by
      rcases List.mem_cons.mp ha with rfl | ha
      · exact ⟨i, hi, rfl⟩
      · obtain ⟨j, hj, rfl⟩ := List.mem_map.mp ha
        exact ⟨j, hways j hj, rfl⟩
    obtain ⟨j, hj, rfl⟩ := this
    exact Th.solid W' hj fun c hc => by walk_at "mem"
  rw [decide_eq_true (List.mem_map_of_mem hw)]
  walk_at "py"
  refine Sg.cons (Sg.stm ?_)
  rw [over_func]
  refine Sw.raiseVE hh' ?_
  walk_at "py"
  refine ⟨rfl, ?_⟩
  refine Args.cons (Sw.e_Const_str ?_)
  intro _
  refine Args.nil ⟨by rw [sizeLine_eq]; exact Nat.le_of_ble_eq_true rfl, fun ex => ?_⟩
  refine Sg.funFirst (l := l) (fs0 := []) rfl (by rw [over_func]; exact Around.frames_deeper hA.fr) (Frs.cons (hA.frs.sub fun c hc => by walk_at "mem") (by rw [E.kind]; decide) rfl List.mem_cons_self) ?_
  intro T'
  exact ⟨S, hI, ex, T', rfl, by walk_at "subp"⟩
end
end

-- G2
section
def forTgt : Stmt → Expr
  | .For t _ _ _ _ => t
  | _ => default
def forBdy : Stmt → List Stmt
  | .For _ _ b _ _ => b
  | _ => []
def liFor : Stmt := ((fnBody (mkSt 1))[5]?).getD (.Pass default)
theorem b_isinstance : bootBuiltins (Str.ofString "isinstance") = some (.builtin "isinstance") := by decide +kernel
theorem b_strT : bootBuiltins (Str.ofString "str") = some (.type "str") := by decide +kernel
theorem b_bool : bootBuiltins (Str.ofString "bool") = some (.type "bool") := by decide +kernel
theorem b_int : bootBuiltins (Str.ofString "int") = some (.type "int") := by decide +kernel
theorem b_list : bootBuiltins (Str.ofString "list") = some (.type "list") := by decide +kernel
theorem b_tuple : bootBuiltins (Str.ofString "tuple") = some (.type "tuple") := by decide +kernel
theorem b_dict : bootBuiltins (Str.ofString "dict") = some (.type "dict") := by decide +kernel
theorem g_RawJSON (w : World) : nsIn (KF w) mainGlobals (Str.ofString "RawJSON") = some (some (.ref 48)) := by kernel_rfl
local macro_rules | `(tactic| walk_at "gl") => `(tactic| with_reducible first | exact g_is_open' _ | exact g_RawJSON _)
local macro_rules | `(tactic| walk_at "bl") => `(tactic| with_reducible first | exact b_VE | exact b_isinstance | exact b_strT | exact b_bool | exact b_int | exact b_list | exact b_tuple | exact b_dict)
@[reducible] def liFr (a : Value) (lvl : Int) (k : Tok) (buf nlv sep first : Value) (u ch cc : Option Value) : List (Option Value) := [some a, some (.int lvl k), some buf, some nlv, some sep, some first, u, ch, cc]
@[reducible] def diVs (a : Value) (lvl : Int) (k : Tok) : List (Option Value) := [some a, some (.int lvl k), none, none, none, none, none, none, none, none, none, none]
-- what is known of the generator of a thing that stands in a thing
structure GenOk (B : Bx) (T : SH) (e : EC) (t : Th) (n : Nat) (w1 : List Nat) (lvl : Int) (r : List Str × Bool) (j : Nat) : Prop where
  li : t.isD j = false → ∀ L k, Emits B I73 T n r.2 [.o e.m (listP (refs t w1))] r.1 (.func (fnBody (mkSt 1)) (envF (e.fd 1) L (e.fn 1))) (denote table (.func (fnBody (mkSt 1)) (envF (e.fd 1) L (e.fn 1)))) []
      [.o L (frameP liKs (liVs (.ref (t.ad j)) lvl k)), .o e.m (listP (refs t w1))]
  di : t.isD j = true → ∀ L k, Emits B I73 T n r.2 [.o e.m (listP (refs t w1))] r.1 (.func (fnBody (mkSt 3)) (envF (e.fd 3) L (e.fn 3))) (denote table (.func (fnBody (mkSt 3)) (envF (e.fd 3) L (e.fn 3)))) []
      [.o L (frameP diKs (diVs (.ref (t.ad j)) lvl k)), .o e.m (listP (refs t w1))]
section
variable {B : Bx} {A : Around} {σ τ S R T : SH} {e : EC} {t : Th} {ind : Option Str}
theorem EC.callee (gr : e.Gr σ) {i : Nat} (hi : i < 5) : Callee B (.ref (e.fn i)) σ := fun h g O => by
  obtain ⟨o, ho, rfl⟩ := O.get (gr.fns i hi)
  exact ⟨_, _, ho, rfl⟩
theorem Sw.callG2 {c : Cl} {Ψ : Value → SH → Prop} {fd : FuncData} {body : List Stmt} {ps ks : List Str} {as : List Value} {vs : List (Option Value)} {a : Addr} {Φ : Value → SH → Prop} (H : FnHere B a fd (c :: σ)) (F : FnOk fd body ps ks true) (hroom : Roomy A 1) (iv : IV ps as ks vs)
    (x : ∀ L n q, Φ (.ref q) (c :: .o q (genP n) :: .g n (.fresh (.func body (envF fd L a))) :: .o L (frameP ks vs) :: σ))
    (hl : as.length = ps.length := by rfl) : Sw B A (PySem.call (.ref a) as) Φ Ψ (c :: σ) :=
  Sw.shrink (Sw.callG H F hroom iv (fun L n q => ⟨_, by walk_at "subp", x L n q⟩) hl)
theorem Emits.c3 {B : Bx} {I : SH → Prop} {T fin : SH} {n : Nat} {ring : Bool} {ps : List Str} {c : Code} {t : Sem Fin} {fs : List Frame} {x y z : Cl} (h : ∀ A l R S, Ok A l n R → (∀ x ∈ T, x ∈ R) → I S → Sg B A c fs t (Post B I T n ring fin R ps) (x :: y :: z :: (S ++ R))) : Emits B I T n ring fin ps c t fs [x, y, z] := Emits.iff.mpr h
theorem Emits.c2 {B : Bx} {I : SH → Prop} {T fin : SH} {n : Nat} {ring : Bool} {ps : List Str} {c : Code} {t : Sem Fin} {fs : List Frame} {x y : Cl} (h : ∀ A l R S, Ok A l n R → (∀ x ∈ T, x ∈ R) → I S → Sg B A c fs t (Post B I T n ring fin R ps) (x :: y :: (S ++ R))) : Emits B I T n ring fin ps c t fs [x, y] := Emits.iff.mpr h
theorem li_thing {i j m : Nat} {way : List Nat} {L it : Addr} {lvl : Int} {k kb kf : Tok} {n1 : Nat} {nlv : Value} {b sep : Str} {r : List Str × Bool} {fin : SH} {K : Flow → Sem Fin} {ring : Bool} {psr : List Str} {p : Pos} {l : List Env} {ch cc : Option Value}
    (W : Wk e t B.w T) (hj : j < t.sz) (gen : GenOk B T e t n1 (way ++ [i]) lvl r j) (hring : r.2 = true → ring = true ∧ psr = [])
    (next : r.2 = false → ∀ ch cc A l R S, Ok A l (n1 + 8) R → (∀ x ∈ T, x ∈ R) → I73 S →
      Sg B A (.forLoop (forTgt liFor) (.ref it) (forBdy liFor) [] (envF (e.fd 1) L (e.fn 1))) [forF (envF (e.fd 1) L (e.fn 1)) K (funE (envF (e.fd 1) L (e.fn 1))) (.func (fnBody (mkSt 1)) (envF (e.fd 1) L (e.fn 1))) p]
        (denote table (.forLoop (forTgt liFor) (.ref it) (forBdy liFor) [] (envF (e.fd 1) L (e.fn 1)))) (Post B I73 T (n1 + 8) ring fin R psr)
        (.o L (frameP liKs (liFr (.ref (t.ad i)) lvl k (.str b kb) nlv (.str sep kf) (.bool false) (some (.ref (t.ad j))) ch cc)) :: .o it (liP (t.ad i) m) :: .o e.m (listP (refs t (way ++ [i]))) :: (S ++ R)))
    (hA : Ok A l (n1 + 8) R) (hT : ∀ x ∈ T, x ∈ R) (hI : I73 S) :
    Sg B A (.forLoop (forTgt liFor) (.ref it) (forBdy liFor) [] (envF (e.fd 1) L (e.fn 1))) [forF (envF (e.fd 1) L (e.fn 1)) K (funE (envF (e.fd 1) L (e.fn 1))) (.func (fnBody (mkSt 1)) (envF (e.fd 1) L (e.fn 1))) p]
        ((execs ((forBdy liFor).drop 1) (envF (e.fd 1) L (e.fn 1))).wrap (forB (forTgt liFor) (.ref it) (forBdy liFor) [] (envF (e.fd 1) L (e.fn 1))) (forE (envF (e.fd 1) L (e.fn 1))) id id) (Post B I73 T (n1 + 8) ring fin R (b :: (r.1 ++ psr)))
        (.o L (frameP liKs (liFr (.ref (t.ad i)) lvl k (.str b kb) nlv (.str sep kf) (.bool false) (some (.ref (t.ad j))) ch cc)) :: .o it (liP (t.ad i) m) :: .o e.m (listP (refs t (way ++ [i]))) :: (S ++ R)) := by
  have E := EC.envOk (e := e) li_b L (e.fn 1)
  have W' := W.mono hT
  have gr := W'.gr
  have hth := W'.th j hj
  have hh' : (A.deeper (envF (e.fd 1) L (e.fn 1))).handled = none := hA.hand
  have hr' : Roomy (A.deeper (envF (e.fd 1) L (e.fn 1))) 0 := ⟨by have := hA.room.depth; show A.depth + 1 + 0 ≤ 600; omega, by have := hA.room.units; show A.units + 3 + 0 ≤ 8000; omega⟩
  cases hd : t.isD j with
  | false =>
    simp only [Th.word, hd, Bool.false_eq_true, if_false] at hth
    refine Sg.cons (Sg.If ?_)
    rw [over_for, over_func]
    walk_at "py"
    refine ⟨trivial, isi_list_str (vs := (t.pt j).map t.pv) (by walk_at "mem") _ _ _ hh' hr'.d hr'.u ?_⟩
    walk_at "py"
    refine Sg.cons (Sg.If ?_)
    rw [over_for, over_func]
    walk_at "py"
    refine ⟨trivial, isi_list_raw (vs := (t.pt j).map t.pv) (by walk_at "mem") _ _ _ hh' hr'.d hr'.u ?_⟩
    walk_at "py"
    refine Sg.cons (Sg.If ?_)
    rw [over_for, over_func]
    walk_at "py"
    refine Sw.is_plain rfl ?_
    walk_at "py"
    rw [show (Value.ref (t.ad j) == Value.none) = false from rfl]
    refine ite_neg Bool.false_ne_true ?_
    refine Sg.cons (Sg.If ?_)
    rw [over_for, over_func]
    walk_at "py"
    refine ⟨trivial, isi_list_bool (vs := (t.pt j).map t.pv) (by walk_at "mem") _ _ _ hh' hr'.d hr'.u ?_⟩
    walk_at "py"
    refine Sg.cons (Sg.If ?_)
    rw [over_for, over_func]
    walk_at "py"
    refine ⟨trivial, isi_list_int (vs := (t.pt j).map t.pv) (by walk_at "mem") _ _ _ hh' hr'.d hr'.u ?_⟩
    walk_at "py"
    refine Sg.cons (Sg.tell rfl rfl ?_)
    rw [over_for, over_func]
    walk_at "py"
    refine ⟨kb, .o L (frameP liKs (liFr (.ref (t.ad i)) lvl k (.str b kb) nlv (.str sep kf) (.bool false) (some (.ref (t.ad j))) ch cc)) :: .o it (liP (t.ad i) m) :: .o e.m (listP (refs t (way ++ [i]))) :: [], S, rfl, hI, by walk_at "subp", ?_⟩
    refine Emits.c3 fun A l R S hA hT hI => ?_
    have W' := W.mono hT
    have gr := W'.gr
    have hth := W'.th j hj
    simp only [Th.word, hd, Bool.false_eq_true, if_false] at hth
    have hh' : (A.deeper (envF (e.fd 1) L (e.fn 1))).handled = none := hA.hand
    have hr' : Roomy (A.deeper (envF (e.fd 1) L (e.fn 1))) 0 := ⟨by have := hA.room.depth; show A.depth + 1 + 0 ≤ 600; omega, by have := hA.room.units; show A.units + 3 + 0 ≤ 8000; omega⟩
    have hr1 : Roomy (A.deeper (envF (e.fd 1) L (e.fn 1))) 1 := ⟨by have := hA.room.depth; show A.depth + 1 + 1 ≤ 600; omega, by have := hA.room.units; show A.units + 3 + 20 ≤ 8000; omega⟩
    refine Sg.cons (Sg.If ?_)
    rw [over_for, over_func]
    walk_at "py"
    refine ⟨trivial, isi_list_list (vs := (t.pt j).map t.pv) (by walk_at "mem") _ _ _ hh' hr'.d hr'.u ?_⟩
    walk_at "py"
    refine Sg.cons (Sg.stm ?_)
    rw [over_for, over_func]
    walk_at "py"
    refine ⟨EC.callee (gr.mono fun c hc => by walk_at "mem") (by decide), ?_⟩
    refine' Sw.callG2 (EC.here (gr.mono fun c hc => by walk_at "mem") (by decide)) (li_ok e) hr1 ?iv ?_
    case iv => walk_at "iv"
    intro L' gn q
    refine Sw.st E (NPut.tail (.tail (.tail (.tail (.tail (.tail (.tail .head))))))) ?_
    refine Sg.nil (Sg.cons (Sg.For ?_))
    rw [over_for, over_func]
    refine Sw.ld E (NAt.tail (.tail (.tail (.tail (.tail (.tail (.tail .head))))))) ?_
    refine Sw.iter_gen (by walk_at "mem") ?_
    intro p2
    refine Sg.subp (Sg.delegate (x := Str.ofString "chunk") (ks := liKs) (fs' := mkFs 1) (n := n1 + 8) (n1 := n1) (fin1 := [.o e.m (listP (refs t (way ++ [i])))]) (σx := [.o it (liP (t.ad i) m)]) (ring1 := r.2) (ps2 := psr) (m := gn) (q := q)
      (vf := fun u => liFr (.ref (t.ad i)) lvl k (.str b kb) nlv (.str sep kf) (.bool false) (some (.ref (t.ad j))) (some (.ref q)) u)
      (σi := [.o L' (frameP liKs (liVs (.ref (t.ad j)) lvl k)), .o e.m (listP (refs t (way ++ [i])))]) (u := cc)
      (fun A => by rw [over_for, over_func]) rfl rfl E rfl (fun u v => NPut.tail (.tail (.tail (.tail (.tail (.tail (.tail (.tail .head)))))))) (fun v => NAt.tail (.tail (.tail (.tail (.tail (.tail (.tail (.tail .head)))))))) (by omega) rfl rfl ?_ ?_ r.1 (.fresh (.func (fnBody (mkSt 1)) (envF (e.fd 1) L' (e.fn 1)))) ?_ A l R S p2 hA hT hI) (by refine Subp.of_cnt fun cc0 => ?_; simp only [cnt_append, cnt_cons, cnt_nil, liFr, liVs]; omega)
    · intro hr u A l R S hA hT hI
      refine Sg.nil (Sg.nil (Sg.nil (Sg.nil (Sg.nil (Sg.nil (Sg.again rfl ?_))))))
      refine (next hr (some (.ref q)) u A l R S hA hT hI).subp ?_
      simp only [List.cons_append, List.nil_append]
      walk_at "subp"
    · intro hr
      obtain ⟨rfl, rfl⟩ := hring hr
      refine ⟨rfl, fun u ex T' A l R S hA hT hI => ?_⟩
      refine Sg.forOutHeld rfl (Sg.funHeld rfl ?_)
      exact ⟨S, hI, ex, T', rfl, by walk_at "subp"⟩
    · exact ⟨_, _, _, .inl ⟨rfl, rfl, rfl⟩, gen.li hd L' k⟩
  | true =>
    simp only [Th.word, hd, if_true] at hth
    refine Sg.cons (Sg.If ?_)
    rw [over_for, over_func]
    walk_at "py"
    refine ⟨trivial, isi_dict_str (kvs := t.kv j) (by walk_at "mem") _ _ _ hh' hr'.d hr'.u ?_⟩
    walk_at "py"
    refine Sg.cons (Sg.If ?_)
    rw [over_for, over_func]
    walk_at "py"
    refine ⟨trivial, isi_dict_raw (kvs := t.kv j) (by walk_at "mem") _ _ _ hh' hr'.d hr'.u ?_⟩
    walk_at "py"
    refine Sg.cons (Sg.If ?_)
    rw [over_for, over_func]
    walk_at "py"
    refine Sw.is_plain rfl ?_
    walk_at "py"
    rw [show (Value.ref (t.ad j) == Value.none) = false from rfl]
    refine ite_neg Bool.false_ne_true ?_
    refine Sg.cons (Sg.If ?_)
    rw [over_for, over_func]
    walk_at "py"
    refine ⟨trivial, isi_dict_bool (kvs := t.kv j) (by walk_at "mem") _ _ _ hh' hr'.d hr'.u ?_⟩
    walk_at "py"
    refine Sg.cons (Sg.If ?_)
    rw [over_for, over_func]
    walk_at "py"
    refine ⟨trivial, isi_dict_int (kvs := t.kv j) (by walk_at "mem") _ _ _ hh' hr'.d hr'.u ?_⟩
    walk_at "py"
    refine Sg.cons (Sg.tell rfl rfl ?_)
    rw [over_for, over_func]
    walk_at "py"
    refine ⟨kb, .o L (frameP liKs (liFr (.ref (t.ad i)) lvl k (.str b kb) nlv (.str sep kf) (.bool false) (some (.ref (t.ad j))) ch cc)) :: .o it (liP (t.ad i) m) :: .o e.m (listP (refs t (way ++ [i]))) :: [], S, rfl, hI, by walk_at "subp", ?_⟩
    refine Emits.c3 fun A l R S hA hT hI => ?_
    have W' := W.mono hT
    have gr := W'.gr
    have hth := W'.th j hj
    simp only [Th.word, hd, if_true] at hth
    have hh' : (A.deeper (envF (e.fd 1) L (e.fn 1))).handled = none := hA.hand
    have hr' : Roomy (A.deeper (envF (e.fd 1) L (e.fn 1))) 0 := ⟨by have := hA.room.depth; show A.depth + 1 + 0 ≤ 600; omega, by have := hA.room.units; show A.units + 3 + 0 ≤ 8000; omega⟩
    have hr1 : Roomy (A.deeper (envF (e.fd 1) L (e.fn 1))) 1 := ⟨by have := hA.room.depth; show A.depth + 1 + 1 ≤ 600; omega, by have := hA.room.units; show A.units + 3 + 20 ≤ 8000; omega⟩
    refine Sg.cons (Sg.If ?_)
    rw [over_for, over_func]
    walk_at "py"
    refine ⟨trivial, isi_dict_list (kvs := t.kv j) (by walk_at "mem") _ _ _ hh' hr'.d hr'.u ?_⟩
    walk_at "py"
    refine Sg.cons (Sg.If ?_)
    rw [over_for, over_func]
    walk_at "py"
    refine ⟨trivial, isi_dict_tuple (kvs := t.kv j) (by walk_at "mem") _ _ _ hh' hr'.d hr'.u ?_⟩
    walk_at "py"
    refine Sg.cons (Sg.If ?_)
    rw [over_for, over_func]
    walk_at "py"
    refine ⟨trivial, isi_dict_dict (kvs := t.kv j) (by walk_at "mem") _ _ _ hh' hr'.d hr'.u ?_⟩
    walk_at "py"
    refine Sg.cons (Sg.stm ?_)
    rw [over_for, over_func]
    walk_at "py"
    refine ⟨EC.callee (gr.mono fun c hc => by walk_at "mem") (by decide), ?_⟩
    refine' Sw.callG2 (EC.here (gr.mono fun c hc => by walk_at "mem") (by decide)) (di_ok e) hr1 ?iv ?_
    case iv => walk_at "iv"
    intro L' gn q
    refine Sw.st E (NPut.tail (.tail (.tail (.tail (.tail (.tail (.tail .head))))))) ?_
    refine Sg.nil (Sg.cons (Sg.For ?_))
    rw [over_for, over_func]
    refine Sw.ld E (NAt.tail (.tail (.tail (.tail (.tail (.tail (.tail .head))))))) ?_
    refine Sw.iter_gen (by walk_at "mem") ?_
    intro p2
    refine Sg.subp (Sg.delegate (x := Str.ofString "chunk") (ks := liKs) (fs' := mkFs 1) (n := n1 + 8) (n1 := n1) (fin1 := [.o e.m (listP (refs t (way ++ [i])))]) (σx := [.o it (liP (t.ad i) m)]) (ring1 := r.2) (ps2 := psr) (m := gn) (q := q)
      (vf := fun u => liFr (.ref (t.ad i)) lvl k (.str b kb) nlv (.str sep kf) (.bool false) (some (.ref (t.ad j))) (some (.ref q)) u)
      (σi := [.o L' (frameP diKs (diVs (.ref (t.ad j)) lvl k)), .o e.m (listP (refs t (way ++ [i])))]) (u := cc)
      (fun A => by rw [over_for, over_func]) rfl rfl E rfl (fun u v => NPut.tail (.tail (.tail (.tail (.tail (.tail (.tail (.tail .head)))))))) (fun v => NAt.tail (.tail (.tail (.tail (.tail (.tail (.tail (.tail .head)))))))) (by omega) rfl rfl ?_ ?_ r.1 (.fresh (.func (fnBody (mkSt 3)) (envF (e.fd 3) L' (e.fn 3)))) ?_ A l R S p2 hA hT hI) (by refine Subp.of_cnt fun cc0 => ?_; simp only [cnt_append, cnt_cons, cnt_nil, liFr, diVs]; omega)
    · intro hr u A l R S hA hT hI
      refine Sg.nil (Sg.nil (Sg.nil (Sg.nil (Sg.nil (Sg.nil (Sg.again rfl ?_))))))
      refine (next hr (some (.ref q)) u A l R S hA hT hI).subp ?_
      simp only [List.cons_append, List.nil_append]
      walk_at "subp"
    · intro hr
      obtain ⟨rfl, rfl⟩ := hring hr
      refine ⟨rfl, fun u ex T' A l R S hA hT hI => ?_⟩
      refine Sg.forOutHeld rfl (Sg.funHeld rfl ?_)
      exact ⟨S, hI, ex, T', rfl, by walk_at "subp"⟩
    · exact ⟨_, _, _, .inl ⟨rfl, rfl, rfl⟩, gen.di hd L' k⟩
end
end

-- G3
section
local macro_rules | `(tactic| walk_at "gl") => `(tactic| with_reducible first | exact g_is_open' _ | exact g_RawJSON _)
local macro_rules | `(tactic| walk_at "bl") => `(tactic| with_reducible first | exact b_VE | exact b_isinstance | exact b_strT | exact b_bool | exact b_int | exact b_list | exact b_tuple | exact b_dict)
-- the pieces with what comes behind them
def withCl (r : List Str × Bool) (cl : List Str) : List Str := r.1 ++ (if r.2 then [] else cl)
section
variable {B : Bx} {A : Around} {σ τ S R T : SH} {e : EC} {t : Th} {ind : Option Str}
theorem li_loop {i : Nat} {way : List Nat} {L it : Addr} {lvl : Int} {k kf : Tok} {n1 : Nat} {nlv : Value} {buf0 sep : Str} {g : Nat → List Str × Bool} {cl : List Str} {fin : SH} {K : Flow → Sem Fin} {ring : Bool} {p : Pos}
    (W : Wk e t B.w T) (hi : i < t.sz) (hl : t.isD i = false) (hpt : ∀ p ∈ t.pt i, -6 ≤ p ∧ p < t.sz) (hl0 : buf0.length ≤ 1000) (hls : sep.length ≤ 1000)
    (gen : ∀ q ∈ t.pt i, 0 ≤ q → GenOk B T e t n1 (way ++ [i]) lvl (g q.toNat) q.toNat)
    (rest : ring = false → ∀ (buf u ch cc first) A l R S, Ok A l (n1 + 8) R → (∀ x ∈ T, x ∈ R) → I73 S → Sg B A (.func (fnBody (mkSt 1)) (envF (e.fd 1) L (e.fn 1))) [] (K .next) (Post B I73 T (n1 + 8) ring fin R cl)
      (.o L (frameP liKs (liFr (.ref (t.ad i)) lvl k buf nlv (.str sep kf) first u ch cc)) :: .o e.m (listP (refs t (way ++ [i]))) :: (S ++ R))) :
    ∀ (ps dn : List Int), t.pt i = dn ++ ps → ∀ (kb : Tok) (b : Str) (u ch cc : Option Value), (dn = [] → b = buf0) → (partsL buf0 sep g ps dn.isEmpty).2 = ring → ∀ A l R S, Ok A l (n1 + 8) R → (∀ x ∈ T, x ∈ R) → I73 S →
      Sg B A (.forLoop (forTgt liFor) (.ref it) (forBdy liFor) [] (envF (e.fd 1) L (e.fn 1))) [forF (envF (e.fd 1) L (e.fn 1)) K (funE (envF (e.fd 1) L (e.fn 1))) (.func (fnBody (mkSt 1)) (envF (e.fd 1) L (e.fn 1))) p]
        (denote table (.forLoop (forTgt liFor) (.ref it) (forBdy liFor) [] (envF (e.fd 1) L (e.fn 1)))) (Post B I73 T (n1 + 8) ring fin R (withCl (partsL buf0 sep g ps dn.isEmpty) cl))
        (.o L (frameP liKs (liFr (.ref (t.ad i)) lvl k (.str b kb) nlv (.str sep kf) (.bool dn.isEmpty) u ch cc)) :: .o it (liP (t.ad i) dn.length) :: .o e.m (listP (refs t (way ++ [i]))) :: (S ++ R)) := by
  intro ps
  have E := EC.envOk (e := e) li_b L (e.fn 1)
  induction ps with
  | nil =>
    intro dn hdn kb b u ch cc hb hr A l R S hA hT hI
    have W' := W.mono hT
    have hth := W'.th i hi
    simp only [Th.word, hl, Bool.false_eq_true, if_false] at hth
    refine Sg.for1 ?_
    rw [over_func]
    refine Sw.next_list_end (l := t.ad i) (vs := (t.pt i).map t.pv) (i := dn.length) hA.hand (by walk_at "del") (by walk_at "mem") (by rw [hdn]; simp) ?_
    have hrf : ring = false := hr.symm
    have z := rest hrf (.str b kb) u ch cc (.bool dn.isEmpty) A l R S hA hT hI
    exact z
  | cons q ps ih =>
    intro dn hdn kb b u ch cc hb hr A l R S hA hT hI
    have W' := W.mono hT
    have gr := W'.gr
    have hth := W'.th i hi
    simp only [Th.word, hl, Bool.false_eq_true, if_false] at hth
    refine Sg.for1 ?_
    rw [over_func]
    refine Sw.next_list (l := t.ad i) (vs := (t.pt i).map t.pv) (i := dn.length) (v := t.pv q) (by walk_at "upd") (by walk_at "mem") (by rw [hdn]; simp) ?_
    refine Sw.pure ?_
    refine Sw.assign_Name ?_
    refine Sw.st E (NPut.tail (.tail (.tail (.tail (.tail (.tail .head)))))) ?_
    refine Sg.cons (Sg.If ?_)
    rw [over_for, over_func]
    refine Sw.isTrue_Name ?_
    refine Sw.ld E (NAt.tail (.tail (.tail (.tail (.tail .head))))) ?_
    refine Sw.truthy_bool ?_
    have key : ∀ (b' : Str) (kb' : Tok), b' = (if dn.isEmpty then buf0 else sep) → Sg B A (.forLoop (forTgt liFor) (.ref it) (forBdy liFor) [] (envF (e.fd 1) L (e.fn 1))) [forF (envF (e.fd 1) L (e.fn 1)) K (funE (envF (e.fd 1) L (e.fn 1))) (.func (fnBody (mkSt 1)) (envF (e.fd 1) L (e.fn 1))) p]
        ((execs ((forBdy liFor).drop 1) (envF (e.fd 1) L (e.fn 1))).wrap (forB (forTgt liFor) (.ref it) (forBdy liFor) [] (envF (e.fd 1) L (e.fn 1))) (forE (envF (e.fd 1) L (e.fn 1))) id id) (Post B I73 T (n1 + 8) ring fin R (withCl (partsL buf0 sep g (q :: ps) dn.isEmpty) cl))
        (.o L (frameP liKs (liFr (.ref (t.ad i)) lvl k (.str b' kb') nlv (.str sep kf) (.bool false) (some (t.pv q)) ch cc)) :: .o it (liP (t.ad i) (dn.length + 1)) :: .o e.m (listP (refs t (way ++ [i]))) :: (S ++ R)) := by
      intro b' kb' hb'
      have hbl : b'.length ≤ 1000 := by rw [hb']; split <;> assumption
      have hh' : (A.deeper (envF (e.fd 1) L (e.fn 1))).handled = none := hA.hand
      have hr' : Roomy (A.deeper (envF (e.fd 1) L (e.fn 1))) 0 := ⟨by have := hA.room.depth; show A.depth + 1 + 0 ≤ 600; omega, by have := hA.room.units; show A.units + 3 + 0 ≤ 8000; omega⟩
      have hr6 : Roomy (A.deeper (envF (e.fd 1) L (e.fn 1))) (0 + 6) := ⟨by have := hA.room.depth; show A.depth + 1 + 6 ≤ 600; omega, by have := hA.room.units; show A.units + 3 + 20 * 6 ≤ 8000; omega⟩
      have hr1 : Roomy (A.deeper (envF (e.fd 1) L (e.fn 1))) 1 := ⟨by have := hA.room.depth; show A.depth + 1 + 1 ≤ 600; omega, by have := hA.room.units; show A.units + 3 + 20 ≤ 8000; omega⟩
      by_cases hq : q < 0
      · have pvq : t.pv q = wordV t (wix q) := by unfold Th.pv; rw [if_pos hq]
        rw [pvq]
        refine Sg.cons (Sg.If ?_)
        rw [over_for, over_func]
        walk_at "py"
        generalize hwq : wix q = wq
        match wq with
        | 0 =>
          refine ⟨trivial, isi_none_str _ _ _ hh' hr'.d hr'.u ?_⟩
          walk_at "py"
          refine Sg.cons (Sg.If ?_)
          rw [over_for, over_func]
          walk_at "py"
          refine ⟨trivial, isi_none_raw _ _ _ hh' hr'.d hr'.u ?_⟩
          walk_at "py"
          refine Sg.cons (Sg.If ?_)
          rw [over_for, over_func]
          walk_at "py"
          refine Sw.is_plain rfl ?_
          walk_at "py"
          rw [show (wordV t 0 == Value.none) = true from rfl]
          refine ite_pos rfl ?_
          have hpc : withCl (partsL buf0 sep g (q :: ps) dn.isEmpty) cl = (b' ++ wordT 0) :: withCl (partsL buf0 sep g ps false) cl := by
            rw [hb', ← hwq]; simp only [partsL, if_pos hq, withCl, List.cons_append]
          rw [hpc]
          refine Sg.cons (Sg.tell rfl rfl ?_)
          rw [over_for, over_func]
          walk_at "py"
          refine Sw.addStr ?_ (by rw [sizeLine_eq]; show _ + 4 ≤ _; omega)
          intro tok
          refine ⟨tok, .o L (frameP liKs (liFr (.ref (t.ad i)) lvl k (.str b' kb') nlv (.str sep kf) (.bool false) (some (wordV t 0)) ch cc)) :: .o it (liP (t.ad i) (dn.length + 1)) :: .o e.m (listP (refs t (way ++ [i]))) :: [], S, rfl, hI, by walk_at "subp", ?_⟩
          refine Emits.iff.mpr fun A l R S hA hT hI => ?_
          refine Sg.nil (Sg.nil (Sg.nil (Sg.again rfl ?_)))
          have hie : (dn ++ [q]).isEmpty = false := by simp
          have z := ih (dn ++ [q]) (by rw [hdn]; simp) kb' b' (some (wordV t 0)) ch cc (by simp) (by
            rw [hie]; have hr2 := hr; simp only [partsL, if_pos hq] at hr2; exact hr2) A l R S hA hT hI
          rw [hie] at z
          simpa using z
        | 3 =>
          refine ⟨trivial, isi_bool_str _ _ _ hh' hr'.d hr'.u ?_⟩
          walk_at "py"
          refine Sg.cons (Sg.If ?_)
          rw [over_for, over_func]
          walk_at "py"
          refine ⟨trivial, isi_bool_raw _ _ _ hh' hr'.d hr'.u ?_⟩
          walk_at "py"
          refine Sg.cons (Sg.If ?_)
          rw [over_for, over_func]
          walk_at "py"
          refine Sw.is_plain rfl ?_
          walk_at "py"
          rw [show (wordV t 3 == Value.none) = false from rfl]
          refine ite_neg Bool.false_ne_true ?_
          refine Sg.cons (Sg.If ?_)
          rw [over_for, over_func]
          walk_at "py"
          refine ⟨trivial, isi_bool_bool _ _ _ hh' hr'.d hr'.u ?_⟩
          walk_at "py"
          have hpc : withCl (partsL buf0 sep g (q :: ps) dn.isEmpty) cl = (b' ++ wordT 3) :: withCl (partsL buf0 sep g ps false) cl := by
            rw [hb', ← hwq]; simp only [partsL, if_pos hq, withCl, List.cons_append]
          rw [hpc]
          refine Sg.cons (Sg.tell rfl rfl ?_)
          rw [over_for, over_func]
          walk_at "py"
          refine Sw.truthy_bool (b := true) ?_
          walk_at "py"
          refine Sw.addStr ?_ (by rw [sizeLine_eq]; show _ + 4 ≤ _; omega)
          intro tok
          refine ⟨tok, .o L (frameP liKs (liFr (.ref (t.ad i)) lvl k (.str b' kb') nlv (.str sep kf) (.bool false) (some (wordV t 3)) ch cc)) :: .o it (liP (t.ad i) (dn.length + 1)) :: .o e.m (listP (refs t (way ++ [i]))) :: [], S, rfl, hI, by walk_at "subp", ?_⟩
          refine Emits.iff.mpr fun A l R S hA hT hI => ?_
          refine Sg.nil (Sg.nil (Sg.nil (Sg.nil (Sg.again rfl ?_))))
          have hie : (dn ++ [q]).isEmpty = false := by simp
          have z := ih (dn ++ [q]) (by rw [hdn]; simp) kb' b' (some (wordV t 3)) ch cc (by simp) (by
            rw [hie]; have hr2 := hr; simp only [partsL, if_pos hq] at hr2; exact hr2) A l R S hA hT hI
          rw [hie] at z
          simpa using z
        | 1 =>
          refine ⟨trivial, isi_int_str _ _ _ hh' hr'.d hr'.u ?_⟩
          walk_at "py"
          refine Sg.cons (Sg.If ?_)
          rw [over_for, over_func]
          walk_at "py"
          refine ⟨trivial, isi_int_raw _ _ _ hh' hr'.d hr'.u ?_⟩
          walk_at "py"
          refine Sg.cons (Sg.If ?_)
          rw [over_for, over_func]
          walk_at "py"
          refine Sw.is_plain rfl ?_
          walk_at "py"
          rw [show (wordV t 1 == Value.none) = false from rfl]
          refine ite_neg Bool.false_ne_true ?_
          refine Sg.cons (Sg.If ?_)
          rw [over_for, over_func]
          walk_at "py"
          refine ⟨trivial, isi_int_bool _ _ _ hh' hr'.d hr'.u ?_⟩
          walk_at "py"
          refine Sg.cons (Sg.If ?_)
          rw [over_for, over_func]
          walk_at "py"
          refine ⟨trivial, isi_int_int _ _ _ hh' hr'.d hr'.u ?_⟩
          walk_at "py"
          have hpc : withCl (partsL buf0 sep g (q :: ps) dn.isEmpty) cl = (b' ++ wordT 1) :: withCl (partsL buf0 sep g ps false) cl := by
            rw [hb', ← hwq]; simp only [partsL, if_pos hq, withCl, List.cons_append]
          rw [hpc]
          refine Sg.cons (Sg.tell rfl rfl ?_)
          rw [over_for, over_func]
          walk_at "py"
          refine ⟨EC.callee (gr.mono fun c hc => by walk_at "mem") (by decide), ?_⟩
          refine ei_call (n := 0) (gr.mono fun c hc => by walk_at "mem") IntOk.p hh' hr1 ?_
          intro kw
          refine Sw.addStr ?_ (by rw [sizeLine_eq]; show _ + 1 ≤ _; omega)
          intro tok
          refine ⟨tok, .o L (frameP liKs (liFr (.ref (t.ad i)) lvl k (.str b' kb') nlv (.str sep kf) (.bool false) (some (wordV t 1)) ch cc)) :: .o it (liP (t.ad i) (dn.length + 1)) :: .o e.m (listP (refs t (way ++ [i]))) :: [], S, rfl, hI, by walk_at "subp", ?_⟩
          refine Emits.iff.mpr fun A l R S hA hT hI => ?_
          refine Sg.nil (Sg.nil (Sg.nil (Sg.nil (Sg.nil (Sg.again rfl ?_)))))
          have hie : (dn ++ [q]).isEmpty = false := by simp
          have z := ih (dn ++ [q]) (by rw [hdn]; simp) kb' b' (some (wordV t 1)) ch cc (by simp) (by
            rw [hie]; have hr2 := hr; simp only [partsL, if_pos hq] at hr2; exact hr2) A l R S hA hT hI
          rw [hie] at z
          simpa using z
        | 4 =>
          refine ⟨trivial, isi_int_str _ _ _ hh' hr'.d hr'.u ?_⟩
          walk_at "py"
          refine Sg.cons (Sg.If ?_)
          rw [over_for, over_func]
          walk_at "py"
          refine ⟨trivial, isi_int_raw _ _ _ hh' hr'.d hr'.u ?_⟩
          walk_at "py"
          refine Sg.cons (Sg.If ?_)
          rw [over_for, over_func]
          walk_at "py"
          refine Sw.is_plain rfl ?_
          walk_at "py"
          rw [show (wordV t 4 == Value.none) = false from rfl]
          refine ite_neg Bool.false_ne_true ?_
          refine Sg.cons (Sg.If ?_)
          rw [over_for, over_func]
          walk_at "py"
          refine ⟨trivial, isi_int_bool _ _ _ hh' hr'.d hr'.u ?_⟩
          walk_at "py"
          refine Sg.cons (Sg.If ?_)
          rw [over_for, over_func]
          walk_at "py"
          refine ⟨trivial, isi_int_int _ _ _ hh' hr'.d hr'.u ?_⟩
          walk_at "py"
          have hpc : withCl (partsL buf0 sep g (q :: ps) dn.isEmpty) cl = (b' ++ wordT 4) :: withCl (partsL buf0 sep g ps false) cl := by
            rw [hb', ← hwq]; simp only [partsL, if_pos hq, withCl, List.cons_append]
          rw [hpc]
          refine Sg.cons (Sg.tell rfl rfl ?_)
          rw [over_for, over_func]
          walk_at "py"
          refine ⟨EC.callee (gr.mono fun c hc => by walk_at "mem") (by decide), ?_⟩
          refine ei_call (n := 0) (gr.mono fun c hc => by walk_at "mem") IntOk.m hh' hr1 ?_
          intro kw
          refine Sw.addStr ?_ (by rw [sizeLine_eq]; show _ + 3 ≤ _; omega)
          intro tok
          refine ⟨tok, .o L (frameP liKs (liFr (.ref (t.ad i)) lvl k (.str b' kb') nlv (.str sep kf) (.bool false) (some (wordV t 4)) ch cc)) :: .o it (liP (t.ad i) (dn.length + 1)) :: .o e.m (listP (refs t (way ++ [i]))) :: [], S, rfl, hI, by walk_at "subp", ?_⟩
          refine Emits.iff.mpr fun A l R S hA hT hI => ?_
          refine Sg.nil (Sg.nil (Sg.nil (Sg.nil (Sg.nil (Sg.again rfl ?_)))))
          have hie : (dn ++ [q]).isEmpty = false := by simp
          have z := ih (dn ++ [q]) (by rw [hdn]; simp) kb' b' (some (wordV t 4)) ch cc (by simp) (by
            rw [hie]; have hr2 := hr; simp only [partsL, if_pos hq] at hr2; exact hr2) A l R S hA hT hI
          rw [hie] at z
          simpa using z
        | 2 =>
          refine ⟨trivial, isi_str_str _ _ _ hh' hr'.d hr'.u ?_⟩
          walk_at "py"
          have hpc : withCl (partsL buf0 sep g (q :: ps) dn.isEmpty) cl = (b' ++ wordT 2) :: withCl (partsL buf0 sep g ps false) cl := by
            rw [hb', ← hwq]; simp only [partsL, if_pos hq, withCl, List.cons_append]
          rw [hpc]
          refine Sg.cons (Sg.tell rfl rfl ?_)
          rw [over_for, over_func]
          walk_at "py"
          refine ⟨callee_K rfl rfl, ?_⟩
          refine Sw.subp (τ := .o L (frameP liKs (liFr (.ref (t.ad i)) lvl k (.str b' kb') nlv (.str sep kf) (.bool false) (some (wordV t 2)) ch cc)) :: (S ++ (.o it (liP (t.ad i) (dn.length + 1)) :: .o e.m (listP (refs t (way ++ [i]))) :: R))) (enc_call (n := 0) EncOk.q hh' hr6 hI ?_) (by walk_at "subp")
          intro kw S' hI'
          rw [show (Str.ofString "\"" ++ Str.ofString "a\\\"" ++ Str.ofString "\"") = wordT 2 from by decide +kernel]
          refine Sw.addStr ?_ (by rw [sizeLine_eq]; show _ + 5 ≤ _; omega)
          intro tok
          refine ⟨tok, .o L (frameP liKs (liFr (.ref (t.ad i)) lvl k (.str b' kb') nlv (.str sep kf) (.bool false) (some (wordV t 2)) ch cc)) :: .o it (liP (t.ad i) (dn.length + 1)) :: .o e.m (listP (refs t (way ++ [i]))) :: [], S', rfl, hI', by walk_at "subp", ?_⟩
          refine Emits.iff.mpr fun A l R S hA hT hI => ?_
          refine Sg.nil (Sg.again rfl ?_)
          have hie : (dn ++ [q]).isEmpty = false := by simp
          have z := ih (dn ++ [q]) (by rw [hdn]; simp) kb' b' (some (wordV t 2)) ch cc (by simp) (by
            rw [hie]; have hr2 := hr; simp only [partsL, if_pos hq] at hr2; exact hr2) A l R S hA hT hI
          rw [hie] at z
          simpa using z
        | m + 5 =>
          refine ⟨trivial, isi_str_str _ _ _ hh' hr'.d hr'.u ?_⟩
          walk_at "py"
          have hpc : withCl (partsL buf0 sep g (q :: ps) dn.isEmpty) cl = (b' ++ wordT (m + 5)) :: withCl (partsL buf0 sep g ps false) cl := by
            rw [hb', ← hwq]; simp only [partsL, if_pos hq, withCl, List.cons_append]
          rw [hpc]
          refine Sg.cons (Sg.tell rfl rfl ?_)
          rw [over_for, over_func]
          walk_at "py"
          refine ⟨callee_K rfl rfl, ?_⟩
          refine Sw.subp (τ := .o L (frameP liKs (liFr (.ref (t.ad i)) lvl k (.str b' kb') nlv (.str sep kf) (.bool false) (some (wordV t (m + 5))) ch cc)) :: (S ++ (.o it (liP (t.ad i) (dn.length + 1)) :: .o e.m (listP (refs t (way ++ [i]))) :: R))) (enc_call (n := 0) EncOk.e hh' hr6 hI ?_) (by walk_at "subp")
          intro kw S' hI'
          rw [show (Str.ofString "\"" ++ Str.ofString "" ++ Str.ofString "\"") = wordT (m + 5) from (by decide +kernel : _ = wordT 5)]
          refine Sw.addStr ?_ (by rw [sizeLine_eq]; show _ + 2 ≤ _; omega)
          intro tok
          refine ⟨tok, .o L (frameP liKs (liFr (.ref (t.ad i)) lvl k (.str b' kb') nlv (.str sep kf) (.bool false) (some (wordV t (m + 5))) ch cc)) :: .o it (liP (t.ad i) (dn.length + 1)) :: .o e.m (listP (refs t (way ++ [i]))) :: [], S', rfl, hI', by walk_at "subp", ?_⟩
          refine Emits.iff.mpr fun A l R S hA hT hI => ?_
          refine Sg.nil (Sg.again rfl ?_)
          have hie : (dn ++ [q]).isEmpty = false := by simp
          have z := ih (dn ++ [q]) (by rw [hdn]; simp) kb' b' (some (wordV t (m + 5))) ch cc (by simp) (by
            rw [hie]; have hr2 := hr; simp only [partsL, if_pos hq] at hr2; exact hr2) A l R S hA hT hI
          rw [hie] at z
          simpa using z
      · have hq0 : 0 ≤ q := Int.not_lt.mp hq
        have hmem : q ∈ t.pt i := by rw [hdn]; simp
        have hj : q.toNat < t.sz := by have := (hpt q hmem).2; omega
        have pvq : t.pv q = .ref (t.ad q.toNat) := by unfold Th.pv; rw [if_neg hq]
        rw [pvq]
        have hie : (dn ++ [q]).isEmpty = false := by simp
        have hpc : withCl (partsL buf0 sep g (q :: ps) dn.isEmpty) cl = b' :: ((g q.toNat).1 ++ (if (g q.toNat).2 then [] else withCl (partsL buf0 sep g ps false) cl)) := by
          rw [hb']; simp only [partsL, if_neg hq, withCl]
          cases h2 : (g q.toNat).2 <;> simp
        rw [hpc]
        have hr2 := hr
        simp only [partsL, if_neg hq] at hr2
        refine li_thing W hj (gen q hmem hq0) (fun h2 => ?_) (fun h2 ch cc A l R S hA hT hI => ?_) hA hT hI
        · rw [h2] at hr2 ⊢; exact ⟨hr2.symm, rfl⟩
        · rw [h2] at hr2 ⊢
          simp only [Bool.false_eq_true, if_false] at hr2 ⊢
          have z := ih (dn ++ [q]) (by rw [hdn]; simp) kb' b' (some (.ref (t.ad q.toNat))) ch cc (by simp) (by rw [hie]; exact hr2) A l R S hA hT hI
          rw [hie] at z
          simpa using z
    cases hd : dn.isEmpty with
    | true =>
      refine ite_pos rfl ?_
      refine Sg.cons (Sg.stm ?_)
      rw [over_for, over_func]
      refine Sw.s_Assign_Name (Sw.e_Const_bool (Sw.st E (NPut.tail (.tail (.tail (.tail (.tail .head))))) ?_))
      refine Sg.nil ?_
      have hb0 : dn = [] := by simpa using hd
      rw [hd] at key
      exact key b kb (by rw [hb hb0]; rfl)
    | false =>
      refine ite_neg Bool.false_ne_true ?_
      refine Sg.cons (Sg.stm ?_)
      rw [over_for, over_func]
      refine Sw.s_Assign_Name (Sw.ld E (NAt.tail (.tail (.tail (.tail .head)))) (Sw.st E (NPut.tail (.tail .head)) ?_))
      refine Sg.nil ?_
      rw [hd] at key
      exact key sep kf rfl
end
end

-- G4
section
local macro_rules | `(tactic| walk_at "gl") => `(tactic| with_reducible first | exact g_is_open' _ | exact g_RawJSON _)
local macro_rules | `(tactic| walk_at "bl") => `(tactic| with_reducible first | exact b_VE | exact b_isinstance | exact b_strT | exact b_bool | exact b_int | exact b_list | exact b_tuple | exact b_dict)
theorem rep_fold (s : Str) : ∀ n, (rep s n).cps = (List.replicate n s.cps).foldl (· ++ ·) #[]
  | 0 => rfl
  | n + 1 => by rw [List.replicate_succ', List.foldl_append, ← rep_fold s n]; rfl
theorem rep_empty {s : Str} (h : s.length = 0) : ∀ n, rep s n = Str.empty
  | 0 => rfl
  | n + 1 => by
    show rep s n ++ s = _
    rw [rep_empty h n]
    obtain ⟨c⟩ := s
    have : c = #[] := Array.eq_empty_of_size_eq_zero h
    subst this; rfl
theorem mul_rep (s : Str) (n : Nat) : Txt.mul s (n : Int) = rep s n := by
  unfold Txt.mul
  split
  · have : n = 0 := by omega
    subst this; rfl
  · split
    · rename_i h1 h2
      rcases (Bool.or_eq_true _ _).mp h2 with h2 | h2
      · have h2 := eq_of_beq h2
        have : n = 1 := by omega
        subst this
        show s = Str.empty ++ s
        obtain ⟨c⟩ := s
        show _ = Str.mk (#[] ++ c)
        rw [Array.empty_append]
      · have h2 : s.length = 0 := eq_of_beq h2
        rw [rep_empty h2]
        obtain ⟨c⟩ := s
        have : c = #[] := Array.eq_empty_of_size_eq_zero h2
        subst this; rfl
    · have e := rep_fold s n
      rw [Int.toNat_natCast, ← e]
theorem rep_len (s : Str) (hs : s.length ≤ 2) : ∀ n, (rep s n).length ≤ 2 * n
  | 0 => Nat.le_refl _
  | n + 1 => by
    have h1 := rep_len s hs n
    have h2 : (rep s (n + 1)).length = (rep s n).length + s.length := Array.size_append
    omega
section
variable {B : Bx} {A : Around} {Ψ : Value → SH → Prop} {σ τ S R T : SH} {e : EC} {t : Th} {ind : Option Str}
theorem Sw.mulStr {s : Str} {n : Nat} {k j : Tok} {Φ : Value → SH → Prop} (hl : s.length ≤ 2) (hn : n ≤ 100) (x : ∀ k, Φ (.str (rep s n) k) σ) : Sw B A (binaryOp .Mult (.str s k) (.int (n : Int) j)) Φ Ψ σ := fun h g d tk O => by
  refine SB.mul ⟨?_, ?_, ?_⟩ fun t' k' => ?_
  · rw [decide_eq_false (by omega), decide_eq_false (by omega)]; rfl
  · intro h1 _ h2
    have h3 : (2 : Int) ≤ (2 ^ 63 - 1) / (n : Int) := (Int.le_ediv_iff_mul_le (by omega)).mpr (by omega)
    omega
  · intro _ _
    have h4 : s.length * n ≤ 2 * 100 := Nat.mul_le_mul hl hn
    show decide (s.length * (n : Int).toNat > sizeLine) = false
    rw [Int.toNat_natCast, sizeLine_eq]
    exact decide_eq_false (by omega)
  · rw [mul_rep]; exact .mk O (x _)
end
end

-- G5
section
local macro_rules | `(tactic| walk_at "gl") => `(tactic| with_reducible first | exact g_is_open' _ | exact g_RawJSON _)
local macro_rules | `(tactic| walk_at "bl") => `(tactic| with_reducible first | exact b_VE | exact b_isinstance | exact b_strT | exact b_bool | exact b_int | exact b_list | exact b_tuple | exact b_dict)
section
variable {B : Bx} {A : Around} {Ψ : Value → SH → Prop} {σ τ S R T : SH} {e : EC} {t : Th} {ind : Option Str}
theorem refs_snoc (t : Th) (way : List Nat) (i : Nat) : refs t (way ++ [i]) = refs t way ++ [.ref (t.ad i)] := by simp [refs]
-- from the start of a list's body to its buf
theorem li_start {i : Nat} {way : List Nat} {L : Addr} {k : Tok} {n1 : Nat} {lvl : Int} {ps : List Str} {ring : Bool} {fin : SH} (W : Wk e t B.w T) (hi : i < t.sz) (hl : t.isD i = false) (hp : t.pt i ≠ []) (hlen : (t.pt i).length ≤ 3)
    (hw : i ∉ way) (hwl : way.length < 10) (hways : ∀ j ∈ way, j < t.sz) (inj : ∀ i j, i < t.sz → j < t.sz → t.ad i = t.ad j → i = j)
    (next : ∀ A l R S, Ok A l (n1 + 8) R → (∀ x ∈ T, x ∈ R) → I73 S → Sg B A (.func (fnBody (mkSt 1)) (envF (e.fd 1) L (e.fn 1))) [] ((execs ((fnBody (mkSt 1)).drop 2) (envF (e.fd 1) L (e.fn 1))).wrap funK (funE (envF (e.fd 1) L (e.fn 1))) id id) (Post B I73 T (n1 + 8) ring fin R ps)
      (.o L (frameP liKs (liVs (.ref (t.ad i)) lvl k)) :: .o e.m (listP (refs t (way ++ [i]))) :: (S ++ R))) :
    Emits B I73 T (n1 + 8) ring fin ps (.func (fnBody (mkSt 1)) (envF (e.fd 1) L (e.fn 1))) (denote table (.func (fnBody (mkSt 1)) (envF (e.fd 1) L (e.fn 1)))) []
      [.o L (frameP liKs (liVs (.ref (t.ad i)) lvl k)), .o e.m (listP (refs t way))] := by
  refine Emits.start (Emits.c2 fun A l R S hA hT hI => ?_)
  have E := EC.envOk (e := e) li_b L (e.fn 1)
  have W' := W.mono hT
  have gr := W'.gr
  have hth := W'.th i hi
  simp only [Th.word, hl, Bool.false_eq_true, if_false] at hth
  have hr' : Roomy (A.deeper (envF (e.fd 1) L (e.fn 1))) (n1 + 7) := hA.room.deeper
  have hh' : (A.deeper (envF (e.fd 1) L (e.fn 1))).handled = none := hA.hand
  refine Sg.cons (Sg.If ?_)
  rw [over_func]
  walk_at "py"
  refine Sw.truthyL (vs := (t.pt i).map t.pv) (by walk_at "mem") (by simp; omega) ?_
  have he : (!!((t.pt i).map t.pv).isEmpty) = false := by simp [hp]
  rw [he]
  refine ite_neg Bool.false_ne_true ?_
  refine Sg.nil ?_
  refine Sg.cons (Sg.If ?_)
  rw [over_func]
  walk_at "py"
  refine Sw.isnot_plain rfl ?_
  walk_at "py"
  refine ite_pos (by rfl) ?_
  refine Sg.cons (Sg.If ?_)
  rw [over_func]
  walk_at "py"
  refine ⟨callee_K rfl rfl, ?_⟩
  refine isOpen_call (ms := way.map t.ad) (hr'.le (by omega)) hh' (by walk_at "mem") ?_ ?_
  · intro a ha
    have : ∃ j, j < t.sz ∧ a = t.ad j := by
      rcases List.mem_cons.mp ha with rfl | ha
      · exact ⟨i, hi, rfl⟩
      · obtain ⟨j, hj, rfl⟩ := List.mem_map.mp ha
        exact ⟨j, hways j hj, rfl⟩
    obtain ⟨j, hj, rfl⟩ := this
    exact Th.solid W' hj fun c hc => by walk_at "mem"
  have hnw : t.ad i ∉ way.map t.ad := fun h => by
    obtain ⟨j, hj, q⟩ := List.mem_map.mp h
    exact hw (inj j i (hways j hj) hi q ▸ hj)
  rw [decide_eq_false hnw]
  walk_at "py"
  refine Sg.nil ?_
  refine Sg.cons (Sg.stm ?_)
  rw [over_func]
  refine Sw.s_ExprA ?_
  refine Sw.e_Call_Meth F.plainAttrs_list F.slot_list_append F.type_list_append ?_
  walk_at "py"
  refine ⟨MethOn.own (P := listP (refs t way)) (by walk_at "mem") (fun o ho => by obtain ⟨n, rfl⟩ := ho; exact ⟨rfl, rfl⟩), ?_⟩
  walk_at "py"
  refine Sw.appendL (by walk_at "upd") (by simp; omega) ?_
  rw [← refs_snoc]
  refine Sg.nil ?_
  exact next A l R S hA hT hI
-- from the last closing piece to the end
theorem li_end {i : Nat} {way : List Nat} {L : Addr} {vs : List (Option Value)} {n : Nat} {l : List Env} (W : Wk e t B.w T) (hwl : way.length < 10) (hA : Ok A l n R) (hT : ∀ x ∈ T, x ∈ R) (hI : I73 S) :
    Sg B A (.func (fnBody (mkSt 1)) (envF (e.fd 1) L (e.fn 1))) [] ((execs ((fnBody (mkSt 1)).drop 7) (envF (e.fd 1) L (e.fn 1))).wrap funK (funE (envF (e.fd 1) L (e.fn 1))) id id) (Post B I73 T n false [.o e.m (listP (refs t way))] R [Str.ofString "]"])
      (.o L (frameP liKs vs) :: .o e.m (listP (refs t (way ++ [i]))) :: (S ++ R)) := by
  have E := EC.envOk (e := e) li_b L (e.fn 1)
  refine Sg.cons (Sg.tell rfl rfl ?_)
  rw [over_func]
  refine Sw.e_Const_str ?_
  intro tok
  refine ⟨tok, [.o L (frameP liKs vs), .o e.m (listP (refs t (way ++ [i])))], S, rfl, hI, by walk_at "subp", ?_⟩
  refine Emits.c2 fun A l R S hA hT hI => ?_
  have W' := W.mono hT
  have gr := W'.gr
  refine Sg.cons (Sg.If ?_)
  rw [over_func]
  walk_at "py"
  refine Sw.isnot_plain rfl ?_
  walk_at "py"
  refine ite_pos (by rfl) ?_
  refine Sg.cons (Sg.stm ?_)
  rw [over_func]
  refine Sw.s_ExprA ?_
  refine Sw.e_Call_Meth F.plainAttrs_list F.slot_list_pop F.type_list_pop ?_
  walk_at "py"
  refine ⟨MethOn.own (P := listP (refs t (way ++ [i]))) (by walk_at "mem") (fun o ho => by obtain ⟨n, rfl⟩ := ho; exact ⟨rfl, rfl⟩), ?_⟩
  walk_at "py"
  rw [refs_snoc]
  refine Sw.popL (by walk_at "upd") (by simp; omega) ?_
  refine Sg.nil (Sg.nil ?_)
  exact Sg.end_ (r := .ok (.ret .none)) ⟨S, hI, _, rfl, rfl, by walk_at "subp"⟩
theorem li_go_none {i deep : Nat} {way : List Nat} {L : Addr} {k : Tok} {n1 : Nat} {lvl : Int} {g : Nat → List Str × Bool} (W : Wk e t B.w T) (eo : EOk e none) (hi : i < t.sz) (hl : t.isD i = false) (hp : t.pt i ≠ []) (hlen : (t.pt i).length ≤ 3) (hpt : ∀ p ∈ t.pt i, -6 ≤ p ∧ p < t.sz)
    (hw : i ∉ way) (hwl : way.length < 10) (hways : ∀ j ∈ way, j < t.sz) (inj : ∀ i j, i < t.sz → j < t.sz → t.ad i = t.ad j → i = j)
    (gen : ∀ q ∈ t.pt i, 0 ≤ q → GenOk B T e t n1 (way ++ [i]) lvl (g q.toNat) q.toNat) :
    Emits B I73 T (n1 + 8) (partsL (Str.ofString "[" ++ nlI none (deep + 1)) (sepI none ++ nlI none (deep + 1)) g (t.pt i) true).2 [.o e.m (listP (refs t way))] (withCl (partsL (Str.ofString "[" ++ nlI none (deep + 1)) (sepI none ++ nlI none (deep + 1)) g (t.pt i) true) (closeI none deep (Str.ofString "]"))) (.func (fnBody (mkSt 1)) (envF (e.fd 1) L (e.fn 1))) (denote table (.func (fnBody (mkSt 1)) (envF (e.fd 1) L (e.fn 1)))) []
      [.o L (frameP liKs (liVs (.ref (t.ad i)) lvl k)), .o e.m (listP (refs t way))] := by
  refine li_start W hi hl hp hlen hw hwl hways inj fun A l R S hA hT hI => ?_
  have E := EC.envOk (e := e) li_b L (e.fn 1)
  have W' := W.mono hT
  have gr := W'.gr
  have hth := W'.th i hi
  simp only [Th.word, hl, Bool.false_eq_true, if_false] at hth
  refine Sg.cons (Sg.stm ?_)
  rw [over_func]
  walk_at "py"
  refine Sg.cons (Sg.If ?_)
  rw [over_func]
  walk_at "py"
  obtain ⟨ki, hki⟩ := eo.indt
  obtain ⟨ks, hks⟩ := eo.isep
  rw [show e.ind = .none from hki]
  refine Sw.isnot_plain rfl ?_
  walk_at "py"
  refine ite_neg (by decide) ?_
  refine Sg.cons (Sg.stm ?_)
  rw [over_func]
  walk_at "py"
  refine Sg.cons (Sg.stm ?_)
  rw [over_func]
  walk_at "py"
  refine Sg.nil ?_
  refine Sg.cons (Sg.stm ?_)
  rw [over_func]
  walk_at "py"
  refine Sg.cons (Sg.For ?_)
  rw [over_func]
  walk_at "py"
  rw [hks]
  refine Sw.iter_list (vs := (t.pt i).map t.pv) (by walk_at "mem") ?_
  intro it p
  refine li_loop (buf0 := Str.ofString "[" ++ nlI none (deep + 1)) (sep := sepI none ++ nlI none (deep + 1)) (nlv := .none) (way := way) (n1 := n1) (lvl := lvl) W hi hl hpt (show (Str.ofString "[" ++ Str.ofString "").length ≤ 1000 from by decide +kernel) (show (Str.ofString ", " ++ Str.ofString "").length ≤ 1000 from by decide +kernel) gen ?_ (t.pt i) [] rfl _ _ none none none (fun _ => rfl) rfl A l R S hA hT hI
  intro hring buf u ch cc first A l R S hA hT hI
  rw [hring]
  have W' := W.mono hT
  have gr := W'.gr
  refine Sg.cons (Sg.If ?_)
  rw [over_func]
  walk_at "py"
  refine Sw.isnot_plain rfl ?_
  walk_at "py"
  refine ite_neg (by decide) ?_
  refine Sg.nil ?_
  exact li_end W hwl hA hT hI
end
end

-- G6
section
local macro_rules | `(tactic| walk_at "gl") => `(tactic| with_reducible first | exact g_is_open' _ | exact g_RawJSON _)
local macro_rules | `(tactic| walk_at "bl") => `(tactic| with_reducible first | exact b_VE | exact b_isinstance | exact b_strT | exact b_bool | exact b_int | exact b_list | exact b_tuple | exact b_dict)
section
variable {B : Bx} {A : Around} {Ψ : Value → SH → Prop} {σ τ S R T : SH} {e : EC} {t : Th} {ind : Option Str}
theorem nl_len {s : Str} (hs : s.length ≤ 2) {n : Nat} (hn : n ≤ 100) : (Str.ofString "\n" ++ rep s n).length ≤ 201 := by
  have h2 : (Str.ofString "\n" ++ rep s n).length = 1 + (rep s n).length := Array.size_append
  have := rep_len s hs n
  omega
theorem str_len (a b : Str) : (a ++ b).length = a.length + b.length := Array.size_append
theorem li_go_some {s : Str} {i deep : Nat} {way : List Nat} {L : Addr} {k : Tok} {n1 : Nat} {g : Nat → List Str × Bool} (W : Wk e t B.w T) (eo : EOk e (some s)) (hi : i < t.sz) (hl : t.isD i = false) (hp : t.pt i ≠ []) (hlen : (t.pt i).length ≤ 3) (hpt : ∀ p ∈ t.pt i, -6 ≤ p ∧ p < t.sz)
    (hw : i ∉ way) (hwl : way.length < 10) (hways : ∀ j ∈ way, j < t.sz) (inj : ∀ i j, i < t.sz → j < t.sz → t.ad i = t.ad j → i = j) (hdeep : deep < 50)
    (gen : ∀ q ∈ t.pt i, 0 ≤ q → GenOk B T e t n1 (way ++ [i]) ((deep + 1 : Nat) : Int) (g q.toNat) q.toNat) :
    Emits B I73 T (n1 + 8) (partsL (Str.ofString "[" ++ nlI (some s) (deep + 1)) (sepI (some s) ++ nlI (some s) (deep + 1)) g (t.pt i) true).2 [.o e.m (listP (refs t way))] (withCl (partsL (Str.ofString "[" ++ nlI (some s) (deep + 1)) (sepI (some s) ++ nlI (some s) (deep + 1)) g (t.pt i) true) (closeI (some s) deep (Str.ofString "]"))) (.func (fnBody (mkSt 1)) (envF (e.fd 1) L (e.fn 1))) (denote table (.func (fnBody (mkSt 1)) (envF (e.fd 1) L (e.fn 1)))) []
      [.o L (frameP liKs (liVs (.ref (t.ad i)) (deep : Int) k)), .o e.m (listP (refs t way))] := by
  have hsl : s.length ≤ 2 := eo.short s rfl
  refine li_start W hi hl hp hlen hw hwl hways inj fun A l R S hA hT hI => ?_
  have E := EC.envOk (e := e) li_b L (e.fn 1)
  have W' := W.mono hT
  have gr := W'.gr
  have hth := W'.th i hi
  simp only [Th.word, hl, Bool.false_eq_true, if_false] at hth
  refine Sg.cons (Sg.stm ?_)
  rw [over_func]
  walk_at "py"
  refine Sg.cons (Sg.If ?_)
  rw [over_func]
  walk_at "py"
  obtain ⟨ki, hki⟩ := eo.indt
  obtain ⟨ks, hks⟩ := eo.isep
  have hki' : e.ind = .str s ki := hki
  have hks' : e.isep = .str (Str.ofString ",") ks := hks
  have hind : (Str.ofString "_indent", Value.str s ki) ∈ e.cells := by rw [← hki']; walk_at "mem"
  have hsep : (Str.ofString "_item_separator", Value.str (Str.ofString ",") ks) ∈ e.cells := by rw [← hks']; walk_at "mem"
  try rw [hki']
  refine Sw.isnot_plain rfl ?_
  walk_at "py"
  refine ite_pos (by rfl) ?_
  refine Sg.cons (Sg.stm ?_)
  rw [over_func]
  walk_at "py"
  refine Sw.iaddI ?_
  intro k1
  walk_at "py"
  refine Sg.cons (Sg.stm ?_)
  rw [over_func]
  walk_at "py"
  refine Sw.mulStr (n := deep + 1) hsl (by omega) ?_
  intro k2
  refine Sw.addStr ?_ (by rw [sizeLine_eq]; have := rep_len s hsl (deep + 1); show 1 + _ ≤ _; omega)
  intro k3
  walk_at "py"
  refine Sg.cons (Sg.stm ?_)
  rw [over_func]
  walk_at "py"
  refine Sw.addStr ?_ (by rw [sizeLine_eq]; have := nl_len hsl (n := deep + 1) (by omega); show 1 + _ ≤ _; omega)
  intro k4
  walk_at "py"
  refine Sg.cons (Sg.stm ?_)
  rw [over_func]
  walk_at "py"
  refine Sw.iaddStr ?_ (by rw [sizeLine_eq]; have := nl_len hsl (n := deep + 1) (by omega); show 1 + _ ≤ _; omega)
  intro k5
  walk_at "py"
  refine Sg.nil ?_
  refine Sg.cons (Sg.stm ?_)
  rw [over_func]
  walk_at "py"
  refine Sg.cons (Sg.For ?_)
  rw [over_func]
  walk_at "py"
  refine Sw.iter_list (vs := (t.pt i).map t.pv) (by walk_at "mem") ?_
  intro it p
  refine li_loop (buf0 := Str.ofString "[" ++ nlI (some s) (deep + 1)) (sep := sepI (some s) ++ nlI (some s) (deep + 1)) (nlv := .str (nlI (some s) (deep + 1)) k3) (way := way) (n1 := n1) (lvl := ((deep + 1 : Nat) : Int)) W hi hl hpt ?_ ?_ gen ?_ (t.pt i) [] rfl _ _ none none none (fun _ => rfl) rfl A l R S hA hT hI
  · have := nl_len hsl (n := deep + 1) (by omega); rw [str_len]; show 1 + (Str.ofString "\n" ++ rep s (deep + 1)).length ≤ _; omega
  · have := nl_len hsl (n := deep + 1) (by omega); rw [str_len]; show 1 + (Str.ofString "\n" ++ rep s (deep + 1)).length ≤ _; omega
  intro hring buf u ch cc first A l R S hA hT hI
  rw [hring]
  have W' := W.mono hT
  have gr := W'.gr
  refine Sg.cons (Sg.If ?_)
  rw [over_func]
  walk_at "py"
  refine Sw.isnot_plain rfl ?_
  walk_at "py"
  refine ite_pos (by rfl) ?_
  refine Sg.cons (Sg.stm ?_)
  rw [over_func]
  walk_at "py"
  refine Sw.isubI ?_
  intro k6
  walk_at "py"
  rw [show (((deep + 1 : Nat) : Int) - 1) = (deep : Int) from by omega]
  refine Sg.cons (Sg.tell rfl rfl ?_)
  rw [over_func]
  walk_at "py"
  refine Sw.mulStr (n := deep) hsl (by omega) ?_
  intro k7
  refine Sw.addStr ?_ (by rw [sizeLine_eq]; have := rep_len s hsl deep; show 1 + _ ≤ _; omega)
  intro tok
  refine ⟨tok, [.o L (frameP liKs _), .o e.m (listP (refs t (way ++ [i])))], S, rfl, hI, Subp.refl _, ?_⟩
  refine Emits.c2 fun A l R S hA hT hI => ?_
  refine Sg.nil ?_
  exact li_end W hwl hA hT hI
end
end

-- D1
section
def tupsL : List Addr → List (Str × Value) → List Tok → List (Addr × (Obj → Prop))
  | a :: as, (k, v) :: kvs, t :: ts => (a, tupP [.str k t, v]) :: tupsL as kvs ts
  | _, _, _ => []
def tups (as : List Addr) (kvs : List (Str × Value)) (ts : List Tok) : SH := (tupsL as kvs ts).map fun p => .o p.1 p.2
theorem tups_cons {a : Addr} {as : List Addr} {k : Str} {v : Value} {kvs : List (Str × Value)} {t : Tok} {ts : List Tok} : tups (a :: as) ((k, v) :: kvs) (t :: ts) = .o a (tupP [.str k t, v]) :: tups as kvs ts := rfl
def viewP (d : Addr) (o : Obj) : Prop := o = { cls := .type "dict_items", data := .fields #[.ref d] }
section
variable {B : Bx} {A : Around} {Ψ : Value → SH → Prop} {σ τ S R T : SH} {Φ : Value → SH → Prop} {w : World} {G : Heap}
theorem Own.adds {h h' : Heap} {g : Array GenState} {ρ : List (Addr × (Obj → Prop))} (O : Own w G h g σ) (hk : ∀ b o, h.get? b = some o → h'.get? b = some o) (hn : (ρ.map (·.1)).Nodup)
    (hρ : ∀ p ∈ ρ, h.get? p.1 = none ∧ ∃ o, h'.get? p.1 = some o ∧ p.2 o) : Own w G h' g (ρ.map (fun p => Cl.o p.1 p.2) ++ σ) where
  wf := O.wf
  keep := fun b o e => hk b o (O.keep b o e)
  at' := fun c hc => by
    rcases List.mem_append.mp hc with hc | hc
    · obtain ⟨p, hp, rfl⟩ := List.mem_map.mp hc
      exact (hρ p hp).2
    · have z := O.at' c hc
      cases c with
      | o a P => obtain ⟨o, ho, q⟩ := z; exact ⟨o, hk a o ho, q⟩
      | g n st => exact z
  low := fun a P m => by
    rcases List.mem_append.mp m with m | m
    · obtain ⟨p, hp, q⟩ := List.mem_map.mp m
      cases q
      cases z : G.get? p.1 with
      | none => rfl
      | some o => have := O.keep _ _ z; rw [(hρ p hp).1] at this; cases this
    · exact O.low a P m
  nodup := by
    rw [List.map_append]
    refine List.nodup_append.mpr ⟨?_, O.nodup, ?_⟩
    · have h3 : (ρ.map fun p => Cl.o p.1 p.2).map Cl.key = (ρ.map (·.1)).map (fun a => 2 * a) := by simp [Cl.key, Function.comp_def]
      rw [h3]
      exact List.Pairwise.map _ (fun a b (hab : ¬ @Eq Nat a b) (q : @Eq Nat (2 * a) (2 * b)) => hab (by omega)) hn
    · intro k hk k' hk' q
      subst q
      obtain ⟨c, hc, rfl⟩ := List.mem_map.mp hk
      obtain ⟨p, hp, rfl⟩ := List.mem_map.mp hc
      obtain ⟨c', hc', q⟩ := List.mem_map.mp hk'
      have z := O.at' c' hc'
      cases c' with
      | o b P =>
        have hk' : @Eq Nat (2 * b) (2 * p.1) := q
        have : @Eq Nat b p.1 := by omega
        subst this
        obtain ⟨o, ho, _⟩ := z
        rw [(hρ p hp).1] at ho; cases ho
      | g n st =>
        have hk' : @Eq Nat (2 * n + 1) (2 * p.1) := q
        omega
  bare := O.bare
-- what a run has made is owned
theorem Own.news {h h' : Heap} {g : Array GenState} {news : List (Addr × Obj)} (O : Own w G h g σ) (D : Mem h h' [] news) : Own w G h' g (news.map (fun p => Cl.o p.1 (eqP p.2)) ++ σ) := by
  have z := O.adds (h' := h') (ρ := news.map fun p => (p.1, eqP p.2)) (fun b o e => D.keep b o e (by simp [away])) (by
    rw [List.map_map]
    exact D.ord.imp fun {a b} (h : a > b) => Nat.ne_of_gt h) (fun p hp => by
    obtain ⟨q, hq, rfl⟩ := List.mem_map.mp hp
    exact ⟨(D.nw q hq).2, q.2, (D.nw q hq).1, rfl⟩)
  rwa [List.map_map] at z
theorem Own.weaks {h : Heap} {g : Array GenState} {a : Addr} {ob : Obj} {P : Obj → Prop} (O : Own w G h g (.o a (eqP ob) :: σ)) (hp : P ob) : Own w G h g (.o a P :: σ) := O.weak .head fun o (q : o = ob) => q ▸ hp
def seqN (o : Obj) : Nat := match o.data with | .seq _ n => n | _ => 0
theorem tupP_of {vs : List Value} {o : Obj} (h : o = { cls := .type "tuple", dict := none, data := .seq vs.toArray (seqN o), slots := #[] }) : tupP vs o := ⟨_, h⟩
theorem listP_of {vs : List Value} {o : Obj} (h : o = { cls := .type "list", dict := none, data := .seq vs.toArray (seqN o), slots := #[] }) : listP vs o := ⟨_, h⟩
theorem items_call {d : Addr} {c : Cl} {kvs : List (Str × Value)} (m : Cl.o d (dictP B.w kvs) ∈ c :: σ) (hsm : (d == sysModules) = false)
    (x : ∀ v, Φ (.ref v) (c :: .o v (viewP d) :: σ)) : Sw B A (call (.builtin "dict.items") [.ref d]) Φ Ψ (c :: σ) := fun h g dr tk O => by
  obtain ⟨o, ho, hx, es, ep, h1, h2, h3, h4⟩ := O.get m
  refine call_meetsIn F.slot_dict_items ⟨_, ho, hx.1⟩ F.entry_dict_items (F.args_dict_items_1 _) (meets_dict_items (PySem.strKind prog B.w) d hsm) ⟨⟨kvs, o, es, ep, ho, hx, h1, h2, h3, h4⟩, ?_⟩
  exact .mk (O.push2 rfl (P := viewP d) rfl) (x _)
theorem tups_there {w : World} {h : Heap} : ∀ (kvs : List (Str × Value)) (as : List Addr), as.length = kvs.length →
    (∀ (j : Nat) (a : Addr), as[j]? = some a → ∃ key k x, kvs[j]? = some (k, x) ∧ (PySem.strKind prog w).is k key = true ∧ h.get? a = some { cls := .type "tuple", data := .seq #[key, x] }) →
    ∃ ts, ts.length = as.length ∧ ((tupsL as kvs ts).map (·.1) = as) ∧ ∀ p ∈ tupsL as kvs ts, ∃ o, h.get? p.1 = some o ∧ p.2 o
  | [], [], _, _ => ⟨[], rfl, rfl, fun p hp => nomatch hp⟩
  | (k, v) :: kvs, a :: as, hl, hp => by
    obtain ⟨key, k', x, e1, e2, e3⟩ := hp 0 a rfl
    obtain ⟨t, rfl⟩ := Value.isStrOf_shape e2
    have e1' : (k, v) = (k', x) := by simpa using e1
    cases e1'
    obtain ⟨ts, h1, h2, h3⟩ := tups_there kvs as (by simpa using hl) (fun j b hj => by
      obtain ⟨key, k, x, e1, e2, e3⟩ := hp (j + 1) b (by simpa using hj)
      exact ⟨key, k, x, by simpa using e1, e2, e3⟩)
    refine ⟨t :: ts, by simp [h1], by simp [tupsL, h2], fun p hp' => ?_⟩
    rcases List.mem_cons.mp hp' with rfl | hp'
    · exact ⟨_, e3, 0, rfl⟩
    · exact h3 p hp'
theorem list_items {d v : Addr} {c : Cl} {kvs : List (Str × Value)} (m : Cl.o d (dictP B.w kvs) ∈ c :: σ) (mv : Cl.o v (viewP d) ∈ c :: σ) (hl : kvs.length ≤ 1000) (hh : A.handled = none)
    (x : ∀ l as ts, as.length = kvs.length → ts.length = kvs.length → Φ (.ref l) (c :: .o l (listP (as.map .ref)) :: (tups as kvs ts ++ σ))) : Sw B A (call (.type "list") [.ref v]) Φ Ψ (c :: σ) := fun h g dr tk O => by
  obtain ⟨o, ho, hx, es, ep, h1, h2, h3, h4⟩ := O.get m
  obtain ⟨ov, hov, rfl⟩ := O.get mv
  refine kdx_call (knd := PySem.strKind prog B.w) (d := d) (kvs := kvs) (ep := ep) hh ⟨_, hov, rfl, rfl⟩ ⟨o, es, ho, hx, h1, h2, h3, h4⟩ (by rw [sizeLine_eq]; omega) fun h' tk' acc c' as hk hL hlen hG hacc => ?_
  obtain ⟨ts, t1, t2, t3⟩ := tups_there (w := B.w) kvs as hlen hG.pairs
  have hS : h.get? h.objs.size = none := Heap.get?_none_of_le (Nat.le_refl _)
  have O1 := O.adds (h' := h') (ρ := (h.objs.size, listP (as.map .ref)) :: tupsL as kvs ts) hk (by
    rw [List.map_cons, t2]
    refine List.nodup_cons.mpr ⟨fun hm => Nat.lt_irrefl _ (hG.above _ hm), hG.rise.imp fun {a b} h => Nat.ne_of_lt h⟩) (fun p hp => by
    rcases List.mem_cons.mp hp with rfl | hp
    · refine ⟨hS, _, hL, c', ?_⟩
      rw [← hacc, Array.toArray_toList]
    · have : p.1 ∈ as := by rw [← t2]; exact List.mem_map_of_mem hp
      exact ⟨Heap.get?_none_of_le (Nat.le_of_lt (hG.above _ this)), t3 p hp⟩)
  refine .mk ((O1.perm ?_)) (x h.objs.size as ts hlen (t1.trans hlen))
  show ((Cl.o h.objs.size (listP (as.map .ref)) :: tups as kvs ts) ++ c :: σ).Perm _
  exact List.perm_middle
end
end

-- D2
section
local macro_rules | `(tactic| walk_at "gl") => `(tactic| with_reducible first | exact g_is_open' _ | exact g_RawJSON _)
local macro_rules | `(tactic| walk_at "bl") => `(tactic| with_reducible first | exact b_VE | exact b_isinstance | exact b_strT | exact b_bool | exact b_int | exact b_list | exact b_tuple | exact b_dict)
def diFor : Stmt := ((fnBody (mkSt 3))[6]?).getD (.Pass default)
@[reducible] def diFr (a : Value) (lvl : Int) (k : Tok) (nlv sepv first items : Value) (key val ch cc : Option Value) : List (Option Value) := [some a, some (.int lvl k), some nlv, some sepv, some first, some items, none, none, key, val, ch, cc]
section
variable {B : Bx} {A : Around} {Ψ : Value → SH → Prop} {σ τ S R T : SH} {e : EC} {t : Th} {ind : Option Str} {env : Env}
theorem Sw.letGo_li {tx : List Expr} {kk : Nat} {tp : Pos} {it l a : Addr} {i : Nat} {Φ : Unit → SH → Prop} (m : Cl.o it (liP l i) ∈ σ) (x : Φ () σ) : Sw B A (letOwnedTupleGo (.Tuple tx kk tp) (.ref it) (.ref a)) Φ Ψ σ := fun h g d tk O => by
  obtain ⟨oi, hi, c1, c2⟩ := O.get m
  exact wpAny_letOwnedTupleGo_listiter ⟨oi, hi, c1, c2⟩ (.mk O x)
theorem Sw.assign_pair {tx ty : Expr} {kk : Nat} {tp : Pos} {a : Addr} {v1 v2 : Value} {Φ : Unit → SH → Prop} (hh : A.handled = none) (m : Cl.o a (tupP [v1, v2]) ∈ σ)
    (x : Sw B A (assign tx env v1) (fun _ τ => Sw B A (assign ty env v2) Φ Ψ τ) Ψ σ) (he : assignEach [tx, ty] env = [(false, assign tx env), (false, assign ty env)] := by with_unfolding_all rfl) : Sw B A (assign (.Tuple [tx, ty] kk tp) env (.ref a)) Φ Ψ σ := fun h g d tk O => by
  obtain ⟨o, ho, n, rfl⟩ := O.get m
  refine wpAny_assign_Tuple (items := #[v1, v2]) hh ⟨_, ho, rfl, _, rfl⟩ (by rw [he]; rfl) (by rw [he]; rfl) fun h' hx => ?_
  rw [he]
  have O' := O.keeps (h' := h') fun b o e => hx b o (Nat.ne_of_lt (Heap.lt_size e)) e
  show wpAny _ A (PySem.holding [v2] (assign tx env v1) >>= fun _ => PySem.holding [] (assign ty env v2) >>= fun _ => Pure.pure ()) _ _ _
  refine wpAny_bind (wpAny_holding (wpAny_mono (x h' g d tk O') (fun _ s q => ?_) fun _ _ q => q))
  obtain ⟨τ, O2, e2, q⟩ := q
  obtain ⟨h2, g2, d2, k2, os2⟩ := s
  cases e2
  exact wpAny_bind (wpAny_holding (wpAny_mono (q h2 g2 d2 k2 O2) (fun _ s q => wpAny_pure q) fun _ _ q => q))
theorem Emits.c4 {I : SH → Prop} {T fin : SH} {n : Nat} {ring : Bool} {ps : List Str} {c : Code} {t : Sem Fin} {fs : List Frame} {x y z u : Cl} {tp : SH} (h : ∀ A l R S, Ok A l n R → (∀ x ∈ T, x ∈ R) → I S → Sg B A c fs t (Post B I T n ring fin R ps) (x :: y :: z :: u :: (tp ++ (S ++ R)))) : Emits B I T n ring fin ps c t fs (x :: y :: z :: u :: tp) := Emits.iff.mpr h
theorem di_word {i m wq : Nat} {way : List Nat} {L it ls : Addr} {lvl : Int} {k : Tok} {n1 : Nat} {nlv sepv kv : Value} {its : List Value} {tp fin : SH} {K : Flow → Sem Fin} {ring : Bool} {psr : List Str} {p : Pos} {l : List Env} {ch cc : Option Value}
    (W : Wk e t B.w T)
    (next : ∀ ch cc A l R S, Ok A l (n1 + 8) R → (∀ x ∈ T, x ∈ R) → I73 S → Sg B A (.forLoop (forTgt diFor) (.ref it) (forBdy diFor) [] (envF (e.fd 3) L (e.fn 3))) [forF (envF (e.fd 3) L (e.fn 3)) K (funE (envF (e.fd 3) L (e.fn 3))) (.func (fnBody (mkSt 3)) (envF (e.fd 3) L (e.fn 3))) p] (denote table (.forLoop (forTgt diFor) (.ref it) (forBdy diFor) [] (envF (e.fd 3) L (e.fn 3)))) (Post B I73 T (n1 + 8) ring fin R psr)
      (.o L (frameP diKs (diFr (.ref (t.ad i)) lvl k nlv sepv (.bool false) (.ref ls) (some kv) (some (wordV t wq)) ch cc)) :: .o it (liP ls m) :: .o ls (listP its) :: .o e.m (listP (refs t (way ++ [i]))) :: (tp ++ (S ++ R))))
    (hA : Ok A l (n1 + 8) R) (hT : ∀ x ∈ T, x ∈ R) (hI : I73 S) :
    Sg B A (.forLoop (forTgt diFor) (.ref it) (forBdy diFor) [] (envF (e.fd 3) L (e.fn 3))) [forF (envF (e.fd 3) L (e.fn 3)) K (funE (envF (e.fd 3) L (e.fn 3))) (.func (fnBody (mkSt 3)) (envF (e.fd 3) L (e.fn 3))) p] ((execs ((forBdy diFor).drop 4) (envF (e.fd 3) L (e.fn 3))).wrap (forB (forTgt diFor) (.ref it) (forBdy diFor) [] (envF (e.fd 3) L (e.fn 3))) (forE (envF (e.fd 3) L (e.fn 3))) id id) (Post B I73 T (n1 + 8) ring fin R (wordT wq :: psr))
      (.o L (frameP diKs (diFr (.ref (t.ad i)) lvl k nlv sepv (.bool false) (.ref ls) (some kv) (some (wordV t wq)) ch cc)) :: .o it (liP ls m) :: .o ls (listP its) :: .o e.m (listP (refs t (way ++ [i]))) :: (tp ++ (S ++ R))) := by
  have E := EC.envOk (e := e) di_b L (e.fn 3)
  have W' := W.mono hT
  have gr := W'.gr
  have hh' : (A.deeper (envF (e.fd 3) L (e.fn 3))).handled = none := hA.hand
  have hr' : Roomy (A.deeper (envF (e.fd 3) L (e.fn 3))) 0 := ⟨by have := hA.room.depth; show A.depth + 1 + 0 ≤ 600; omega, by have := hA.room.units; show A.units + 3 + 0 ≤ 8000; omega⟩
  have hr6 : Roomy (A.deeper (envF (e.fd 3) L (e.fn 3))) (0 + 6) := ⟨by have := hA.room.depth; show A.depth + 1 + 6 ≤ 600; omega, by have := hA.room.units; show A.units + 3 + 20 * 6 ≤ 8000; omega⟩
  have hr1 : Roomy (A.deeper (envF (e.fd 3) L (e.fn 3))) 1 := ⟨by have := hA.room.depth; show A.depth + 1 + 1 ≤ 600; omega, by have := hA.room.units; show A.units + 3 + 20 ≤ 8000; omega⟩
  match wq with
  | 0 =>
    refine Sg.cons (Sg.If ?_)
    rw [over_for, over_func]
    walk_at "py"
    refine ⟨trivial, isi_none_str _ _ _ hh' hr'.d hr'.u ?_⟩
    walk_at "py"
    refine Sg.cons (Sg.If ?_)
    rw [over_for, over_func]
    walk_at "py"
    refine ⟨trivial, isi_none_raw _ _ _ hh' hr'.d hr'.u ?_⟩
    walk_at "py"
    refine Sg.cons (Sg.If ?_)
    rw [over_for, over_func]
    walk_at "py"
    refine Sw.is_plain rfl ?_
    walk_at "py"
    rw [show (wordV t 0 == Value.none) = true from rfl]
    refine ite_pos rfl ?_
    refine Sg.cons (Sg.tell rfl rfl ?_)
    rw [over_for, over_func]
    walk_at "py"
    refine ⟨_, .o L (frameP diKs (diFr (.ref (t.ad i)) lvl k nlv sepv (.bool false) (.ref ls) (some kv) (some (wordV t 0)) ch cc)) :: .o it (liP ls m) :: .o ls (listP its) :: .o e.m (listP (refs t (way ++ [i]))) :: tp, S, rfl, hI, by walk_at "subp", ?_⟩
    refine Emits.c4 fun A l R S hA hT hI => ?_
    refine Sg.nil (Sg.nil (Sg.nil (Sg.again rfl ?_)))
    exact next ch cc A l R S hA hT hI
  | 3 =>
    refine Sg.cons (Sg.If ?_)
    rw [over_for, over_func]
    walk_at "py"
    refine ⟨trivial, isi_bool_str _ _ _ hh' hr'.d hr'.u ?_⟩
    walk_at "py"
    refine Sg.cons (Sg.If ?_)
    rw [over_for, over_func]
    walk_at "py"
    refine ⟨trivial, isi_bool_raw _ _ _ hh' hr'.d hr'.u ?_⟩
    walk_at "py"
    refine Sg.cons (Sg.If ?_)
    rw [over_for, over_func]
    walk_at "py"
    refine Sw.is_plain rfl ?_
    walk_at "py"
    rw [show (wordV t 3 == Value.none) = false from rfl]
    refine ite_neg Bool.false_ne_true ?_
    refine Sg.cons (Sg.If ?_)
    rw [over_for, over_func]
    walk_at "py"
    refine ⟨trivial, isi_bool_bool _ _ _ hh' hr'.d hr'.u ?_⟩
    walk_at "py"
    refine Sg.cons (Sg.tell rfl rfl ?_)
    rw [over_for, over_func]
    walk_at "py"
    refine Sw.truthy_bool (b := true) ?_
    walk_at "py"
    refine ⟨_, .o L (frameP diKs (diFr (.ref (t.ad i)) lvl k nlv sepv (.bool false) (.ref ls) (some kv) (some (wordV t 3)) ch cc)) :: .o it (liP ls m) :: .o ls (listP its) :: .o e.m (listP (refs t (way ++ [i]))) :: tp, S, rfl, hI, by walk_at "subp", ?_⟩
    refine Emits.c4 fun A l R S hA hT hI => ?_
    refine Sg.nil (Sg.nil (Sg.nil (Sg.nil (Sg.again rfl ?_))))
    exact next ch cc A l R S hA hT hI
  | 1 =>
    refine Sg.cons (Sg.If ?_)
    rw [over_for, over_func]
    walk_at "py"
    refine ⟨trivial, isi_int_str _ _ _ hh' hr'.d hr'.u ?_⟩
    walk_at "py"
    refine Sg.cons (Sg.If ?_)
    rw [over_for, over_func]
    walk_at "py"
    refine ⟨trivial, isi_int_raw _ _ _ hh' hr'.d hr'.u ?_⟩
    walk_at "py"
    refine Sg.cons (Sg.If ?_)
    rw [over_for, over_func]
    walk_at "py"
    refine Sw.is_plain rfl ?_
    walk_at "py"
    rw [show (wordV t 1 == Value.none) = false from rfl]
    refine ite_neg Bool.false_ne_true ?_
    refine Sg.cons (Sg.If ?_)
    rw [over_for, over_func]
    walk_at "py"
    refine ⟨trivial, isi_int_bool _ _ _ hh' hr'.d hr'.u ?_⟩
    walk_at "py"
    refine Sg.cons (Sg.If ?_)
    rw [over_for, over_func]
    walk_at "py"
    refine ⟨trivial, isi_int_int _ _ _ hh' hr'.d hr'.u ?_⟩
    walk_at "py"
    refine Sg.cons (Sg.tell rfl rfl ?_)
    rw [over_for, over_func]
    walk_at "py"
    refine ⟨EC.callee (gr.mono fun c hc => by walk_at "mem") (by decide), ?_⟩
    refine ei_call (n := 0) (gr.mono fun c hc => by walk_at "mem") IntOk.p hh' hr1 ?_
    intro tok
    refine ⟨tok, .o L (frameP diKs (diFr (.ref (t.ad i)) lvl k nlv sepv (.bool false) (.ref ls) (some kv) (some (wordV t 1)) ch cc)) :: .o it (liP ls m) :: .o ls (listP its) :: .o e.m (listP (refs t (way ++ [i]))) :: tp, S, rfl, hI, by walk_at "subp", ?_⟩
    refine Emits.c4 fun A l R S hA hT hI => ?_
    refine Sg.nil (Sg.nil (Sg.nil (Sg.nil (Sg.nil (Sg.again rfl ?_)))))
    exact next ch cc A l R S hA hT hI
  | 4 =>
    refine Sg.cons (Sg.If ?_)
    rw [over_for, over_func]
    walk_at "py"
    refine ⟨trivial, isi_int_str _ _ _ hh' hr'.d hr'.u ?_⟩
    walk_at "py"
    refine Sg.cons (Sg.If ?_)
    rw [over_for, over_func]
    walk_at "py"
    refine ⟨trivial, isi_int_raw _ _ _ hh' hr'.d hr'.u ?_⟩
    walk_at "py"
    refine Sg.cons (Sg.If ?_)
    rw [over_for, over_func]
    walk_at "py"
    refine Sw.is_plain rfl ?_
    walk_at "py"
    rw [show (wordV t 4 == Value.none) = false from rfl]
    refine ite_neg Bool.false_ne_true ?_
    refine Sg.cons (Sg.If ?_)
    rw [over_for, over_func]
    walk_at "py"
    refine ⟨trivial, isi_int_bool _ _ _ hh' hr'.d hr'.u ?_⟩
    walk_at "py"
    refine Sg.cons (Sg.If ?_)
    rw [over_for, over_func]
    walk_at "py"
    refine ⟨trivial, isi_int_int _ _ _ hh' hr'.d hr'.u ?_⟩
    walk_at "py"
    refine Sg.cons (Sg.tell rfl rfl ?_)
    rw [over_for, over_func]
    walk_at "py"
    refine ⟨EC.callee (gr.mono fun c hc => by walk_at "mem") (by decide), ?_⟩
    refine ei_call (n := 0) (gr.mono fun c hc => by walk_at "mem") IntOk.m hh' hr1 ?_
    intro tok
    refine ⟨tok, .o L (frameP diKs (diFr (.ref (t.ad i)) lvl k nlv sepv (.bool false) (.ref ls) (some kv) (some (wordV t 4)) ch cc)) :: .o it (liP ls m) :: .o ls (listP its) :: .o e.m (listP (refs t (way ++ [i]))) :: tp, S, rfl, hI, by walk_at "subp", ?_⟩
    refine Emits.c4 fun A l R S hA hT hI => ?_
    refine Sg.nil (Sg.nil (Sg.nil (Sg.nil (Sg.nil (Sg.again rfl ?_)))))
    exact next ch cc A l R S hA hT hI
  | 2 =>
    refine Sg.cons (Sg.If ?_)
    rw [over_for, over_func]
    walk_at "py"
    refine ⟨trivial, isi_str_str _ _ _ hh' hr'.d hr'.u ?_⟩
    walk_at "py"
    refine Sg.cons (Sg.tell rfl rfl ?_)
    rw [over_for, over_func]
    walk_at "py"
    refine ⟨callee_K rfl rfl, ?_⟩
    refine Sw.subp (τ := .o L (frameP diKs (diFr (.ref (t.ad i)) lvl k nlv sepv (.bool false) (.ref ls) (some kv) (some (wordV t 2)) ch cc)) :: (S ++ (.o it (liP ls m) :: .o ls (listP its) :: .o e.m (listP (refs t (way ++ [i]))) :: (tp ++ R)))) (enc_call (n := 0) EncOk.q hh' hr6 hI ?_) (by walk_at "subp")
    intro tok S' hI'
    rw [show (Str.ofString "\"" ++ Str.ofString "a\\\"" ++ Str.ofString "\"") = wordT 2 from by decide +kernel]
    refine ⟨tok, .o L (frameP diKs (diFr (.ref (t.ad i)) lvl k nlv sepv (.bool false) (.ref ls) (some kv) (some (wordV t 2)) ch cc)) :: .o it (liP ls m) :: .o ls (listP its) :: .o e.m (listP (refs t (way ++ [i]))) :: tp, S', rfl, hI', by walk_at "subp", ?_⟩
    refine Emits.c4 fun A l R S hA hT hI => ?_
    refine Sg.nil (Sg.again rfl ?_)
    exact next ch cc A l R S hA hT hI
  | m0 + 5 =>
    refine Sg.cons (Sg.If ?_)
    rw [over_for, over_func]
    walk_at "py"
    refine ⟨trivial, isi_str_str _ _ _ hh' hr'.d hr'.u ?_⟩
    walk_at "py"
    refine Sg.cons (Sg.tell rfl rfl ?_)
    rw [over_for, over_func]
    walk_at "py"
    refine ⟨callee_K rfl rfl, ?_⟩
    refine Sw.subp (τ := .o L (frameP diKs (diFr (.ref (t.ad i)) lvl k nlv sepv (.bool false) (.ref ls) (some kv) (some (wordV t (m0 + 5))) ch cc)) :: (S ++ (.o it (liP ls m) :: .o ls (listP its) :: .o e.m (listP (refs t (way ++ [i]))) :: (tp ++ R)))) (enc_call (n := 0) EncOk.e hh' hr6 hI ?_) (by walk_at "subp")
    intro tok S' hI'
    rw [show (Str.ofString "\"" ++ Str.ofString "" ++ Str.ofString "\"") = wordT (m0 + 5) from (by decide +kernel : _ = wordT 5)]
    refine ⟨tok, .o L (frameP diKs (diFr (.ref (t.ad i)) lvl k nlv sepv (.bool false) (.ref ls) (some kv) (some (wordV t (m0 + 5))) ch cc)) :: .o it (liP ls m) :: .o ls (listP its) :: .o e.m (listP (refs t (way ++ [i]))) :: tp, S', rfl, hI', by walk_at "subp", ?_⟩
    refine Emits.c4 fun A l R S hA hT hI => ?_
    refine Sg.nil (Sg.again rfl ?_)
    exact next ch cc A l R S hA hT hI
end
end

-- D3
section
local macro_rules | `(tactic| walk_at "gl") => `(tactic| with_reducible first | exact g_is_open' _ | exact g_RawJSON _)
local macro_rules | `(tactic| walk_at "bl") => `(tactic| with_reducible first | exact b_VE | exact b_isinstance | exact b_strT | exact b_bool | exact b_int | exact b_list | exact b_tuple | exact b_dict)
section
variable {B : Bx} {A : Around} {Ψ : Value → SH → Prop} {σ τ S R T : SH} {e : EC} {t : Th} {ind : Option Str} {env : Env}
theorem di_thing {i j m : Nat} {way : List Nat} {L it ls : Addr} {lvl : Int} {k : Tok} {n1 : Nat} {nlv sepv kv : Value} {its : List Value} {tp fin : SH} {r : List Str × Bool} {K : Flow → Sem Fin} {ring : Bool} {psr : List Str} {p : Pos} {l : List Env} {ch cc : Option Value}
    (W : Wk e t B.w T) (hj : j < t.sz) (gen : GenOk B T e t n1 (way ++ [i]) lvl r j) (hring : r.2 = true → ring = true ∧ psr = [])
    (next : r.2 = false → ∀ ch cc A l R S, Ok A l (n1 + 8) R → (∀ x ∈ T, x ∈ R) → I73 S → Sg B A (.forLoop (forTgt diFor) (.ref it) (forBdy diFor) [] (envF (e.fd 3) L (e.fn 3))) [forF (envF (e.fd 3) L (e.fn 3)) K (funE (envF (e.fd 3) L (e.fn 3))) (.func (fnBody (mkSt 3)) (envF (e.fd 3) L (e.fn 3))) p] (denote table (.forLoop (forTgt diFor) (.ref it) (forBdy diFor) [] (envF (e.fd 3) L (e.fn 3)))) (Post B I73 T (n1 + 8) ring fin R psr)
      (.o L (frameP diKs (diFr (.ref (t.ad i)) lvl k nlv sepv (.bool false) (.ref ls) (some kv) (some (.ref (t.ad j))) ch cc)) :: .o it (liP ls m) :: .o ls (listP its) :: .o e.m (listP (refs t (way ++ [i]))) :: (tp ++ (S ++ R))))
    (hA : Ok A l (n1 + 8) R) (hT : ∀ x ∈ T, x ∈ R) (hI : I73 S) :
    Sg B A (.forLoop (forTgt diFor) (.ref it) (forBdy diFor) [] (envF (e.fd 3) L (e.fn 3))) [forF (envF (e.fd 3) L (e.fn 3)) K (funE (envF (e.fd 3) L (e.fn 3))) (.func (fnBody (mkSt 3)) (envF (e.fd 3) L (e.fn 3))) p] ((execs ((forBdy diFor).drop 4) (envF (e.fd 3) L (e.fn 3))).wrap (forB (forTgt diFor) (.ref it) (forBdy diFor) [] (envF (e.fd 3) L (e.fn 3))) (forE (envF (e.fd 3) L (e.fn 3))) id id) (Post B I73 T (n1 + 8) ring fin R (r.1 ++ psr))
      (.o L (frameP diKs (diFr (.ref (t.ad i)) lvl k nlv sepv (.bool false) (.ref ls) (some kv) (some (.ref (t.ad j))) ch cc)) :: .o it (liP ls m) :: .o ls (listP its) :: .o e.m (listP (refs t (way ++ [i]))) :: (tp ++ (S ++ R))) := by
  have E := EC.envOk (e := e) di_b L (e.fn 3)
  have W' := W.mono hT
  have gr := W'.gr
  have hth := W'.th j hj
  have hh' : (A.deeper (envF (e.fd 3) L (e.fn 3))).handled = none := hA.hand
  have hr' : Roomy (A.deeper (envF (e.fd 3) L (e.fn 3))) 0 := ⟨by have := hA.room.depth; show A.depth + 1 + 0 ≤ 600; omega, by have := hA.room.units; show A.units + 3 + 0 ≤ 8000; omega⟩
  have hr1 : Roomy (A.deeper (envF (e.fd 3) L (e.fn 3))) 1 := ⟨by have := hA.room.depth; show A.depth + 1 + 1 ≤ 600; omega, by have := hA.room.units; show A.units + 3 + 20 ≤ 8000; omega⟩
  cases hd : t.isD j with
  | false =>
    simp only [Th.word, hd, Bool.false_eq_true, if_false] at hth
    refine Sg.cons (Sg.If ?_)
    rw [over_for, over_func]
    walk_at "py"
    refine ⟨trivial, isi_list_str (vs := (t.pt j).map t.pv) (by walk_at "mem") _ _ _ hh' hr'.d hr'.u ?_⟩
    walk_at "py"
    refine Sg.cons (Sg.If ?_)
    rw [over_for, over_func]
    walk_at "py"
    refine ⟨trivial, isi_list_raw (vs := (t.pt j).map t.pv) (by walk_at "mem") _ _ _ hh' hr'.d hr'.u ?_⟩
    walk_at "py"
    refine Sg.cons (Sg.If ?_)
    rw [over_for, over_func]
    walk_at "py"
    refine Sw.is_plain rfl ?_
    walk_at "py"
    rw [show (Value.ref (t.ad j) == Value.none) = false from rfl]
    refine ite_neg Bool.false_ne_true ?_
    refine Sg.cons (Sg.If ?_)
    rw [over_for, over_func]
    walk_at "py"
    refine ⟨trivial, isi_list_bool (vs := (t.pt j).map t.pv) (by walk_at "mem") _ _ _ hh' hr'.d hr'.u ?_⟩
    walk_at "py"
    refine Sg.cons (Sg.If ?_)
    rw [over_for, over_func]
    walk_at "py"
    refine ⟨trivial, isi_list_int (vs := (t.pt j).map t.pv) (by walk_at "mem") _ _ _ hh' hr'.d hr'.u ?_⟩
    walk_at "py"
    refine Sg.cons (Sg.If ?_)
    rw [over_for, over_func]
    walk_at "py"
    refine ⟨trivial, isi_list_list (vs := (t.pt j).map t.pv) (by walk_at "mem") _ _ _ hh' hr'.d hr'.u ?_⟩
    walk_at "py"
    refine Sg.cons (Sg.stm ?_)
    rw [over_for, over_func]
    walk_at "py"
    refine ⟨EC.callee (gr.mono fun c hc => by walk_at "mem") (by decide), ?_⟩
    refine' Sw.callG2 (EC.here (gr.mono fun c hc => by walk_at "mem") (by decide)) (li_ok e) hr1 ?iv ?_
    case iv => walk_at "iv"
    intro L' gn q
    refine Sw.st E (NPut.tail (.tail (.tail (.tail (.tail (.tail (.tail (.tail (.tail (.tail .head)))))))))) ?_
    refine Sg.nil (Sg.cons (Sg.For ?_))
    rw [over_for, over_func]
    refine Sw.ld E (NAt.tail (.tail (.tail (.tail (.tail (.tail (.tail (.tail (.tail (.tail .head)))))))))) ?_
    refine Sw.iter_gen (by walk_at "mem") ?_
    intro p2
    refine Sg.subp (Sg.delegate (x := Str.ofString "chunk") (ks := diKs) (fs' := mkFs 3) (n := n1 + 8) (n1 := n1) (fin1 := [.o e.m (listP (refs t (way ++ [i])))]) (σx := .o it (liP ls m) :: .o ls (listP its) :: tp) (ring1 := r.2) (ps2 := psr) (m := gn) (q := q)
      (vf := fun u => diFr (.ref (t.ad i)) lvl k nlv sepv (.bool false) (.ref ls) (some kv) (some (.ref (t.ad j))) (some (.ref q)) u)
      (σi := [.o L' (frameP liKs (liVs (.ref (t.ad j)) lvl k)), .o e.m (listP (refs t (way ++ [i])))]) (u := cc)
      (fun A => by rw [over_for, over_func]) rfl rfl E rfl (fun u v => NPut.tail (.tail (.tail (.tail (.tail (.tail (.tail (.tail (.tail (.tail (.tail .head))))))))))) (fun v => NAt.tail (.tail (.tail (.tail (.tail (.tail (.tail (.tail (.tail (.tail (.tail .head))))))))))) (by omega) rfl rfl ?_ ?_ r.1 (.fresh (.func (fnBody (mkSt 1)) (envF (e.fd 1) L' (e.fn 1)))) ?_ A l R S p2 hA hT hI) (by refine Subp.of_cnt fun cc0 => ?_; simp only [cnt_append, cnt_cons, cnt_nil, diFr, liVs]; omega)
    · intro hr u A l R S hA hT hI
      refine Sg.nil (Sg.nil (Sg.nil (Sg.nil (Sg.nil (Sg.nil (Sg.again rfl ?_))))))
      exact (next hr (some (.ref q)) u A l R S hA hT hI).subp (by simp only [List.cons_append, List.nil_append]; walk_at "subp")
    · intro hr
      obtain ⟨rfl, rfl⟩ := hring hr
      refine ⟨rfl, fun u ex T' A l R S hA hT hI => ?_⟩
      refine Sg.forOutHeld rfl (Sg.funHeld rfl ?_)
      exact ⟨S, hI, ex, T', rfl, by walk_at "subp"⟩
    · exact ⟨_, _, _, .inl ⟨rfl, rfl, rfl⟩, gen.li hd L' k⟩
  | true =>
    simp only [Th.word, hd, if_true] at hth
    refine Sg.cons (Sg.If ?_)
    rw [over_for, over_func]
    walk_at "py"
    refine ⟨trivial, isi_dict_str (kvs := t.kv j) (by walk_at "mem") _ _ _ hh' hr'.d hr'.u ?_⟩
    walk_at "py"
    refine Sg.cons (Sg.If ?_)
    rw [over_for, over_func]
    walk_at "py"
    refine ⟨trivial, isi_dict_raw (kvs := t.kv j) (by walk_at "mem") _ _ _ hh' hr'.d hr'.u ?_⟩
    walk_at "py"
    refine Sg.cons (Sg.If ?_)
    rw [over_for, over_func]
    walk_at "py"
    refine Sw.is_plain rfl ?_
    walk_at "py"
    rw [show (Value.ref (t.ad j) == Value.none) = false from rfl]
    refine ite_neg Bool.false_ne_true ?_
    refine Sg.cons (Sg.If ?_)
    rw [over_for, over_func]
    walk_at "py"
    refine ⟨trivial, isi_dict_bool (kvs := t.kv j) (by walk_at "mem") _ _ _ hh' hr'.d hr'.u ?_⟩
    walk_at "py"
    refine Sg.cons (Sg.If ?_)
    rw [over_for, over_func]
    walk_at "py"
    refine ⟨trivial, isi_dict_int (kvs := t.kv j) (by walk_at "mem") _ _ _ hh' hr'.d hr'.u ?_⟩
    walk_at "py"
    refine Sg.cons (Sg.If ?_)
    rw [over_for, over_func]
    walk_at "py"
    refine ⟨trivial, isi_dict_list (kvs := t.kv j) (by walk_at "mem") _ _ _ hh' hr'.d hr'.u ?_⟩
    walk_at "py"
    refine Sg.cons (Sg.If ?_)
    rw [over_for, over_func]
    walk_at "py"
    refine ⟨trivial, isi_dict_tuple (kvs := t.kv j) (by walk_at "mem") _ _ _ hh' hr'.d hr'.u ?_⟩
    walk_at "py"
    refine Sg.cons (Sg.If ?_)
    rw [over_for, over_func]
    walk_at "py"
    refine ⟨trivial, isi_dict_dict (kvs := t.kv j) (by walk_at "mem") _ _ _ hh' hr'.d hr'.u ?_⟩
    walk_at "py"
    refine Sg.cons (Sg.stm ?_)
    rw [over_for, over_func]
    walk_at "py"
    refine ⟨EC.callee (gr.mono fun c hc => by walk_at "mem") (by decide), ?_⟩
    refine' Sw.callG2 (EC.here (gr.mono fun c hc => by walk_at "mem") (by decide)) (di_ok e) hr1 ?iv ?_
    case iv => walk_at "iv"
    intro L' gn q
    refine Sw.st E (NPut.tail (.tail (.tail (.tail (.tail (.tail (.tail (.tail (.tail (.tail .head)))))))))) ?_
    refine Sg.nil (Sg.cons (Sg.For ?_))
    rw [over_for, over_func]
    refine Sw.ld E (NAt.tail (.tail (.tail (.tail (.tail (.tail (.tail (.tail (.tail (.tail .head)))))))))) ?_
    refine Sw.iter_gen (by walk_at "mem") ?_
    intro p2
    refine Sg.subp (Sg.delegate (x := Str.ofString "chunk") (ks := diKs) (fs' := mkFs 3) (n := n1 + 8) (n1 := n1) (fin1 := [.o e.m (listP (refs t (way ++ [i])))]) (σx := .o it (liP ls m) :: .o ls (listP its) :: tp) (ring1 := r.2) (ps2 := psr) (m := gn) (q := q)
      (vf := fun u => diFr (.ref (t.ad i)) lvl k nlv sepv (.bool false) (.ref ls) (some kv) (some (.ref (t.ad j))) (some (.ref q)) u)
      (σi := [.o L' (frameP diKs (diVs (.ref (t.ad j)) lvl k)), .o e.m (listP (refs t (way ++ [i])))]) (u := cc)
      (fun A => by rw [over_for, over_func]) rfl rfl E rfl (fun u v => NPut.tail (.tail (.tail (.tail (.tail (.tail (.tail (.tail (.tail (.tail (.tail .head))))))))))) (fun v => NAt.tail (.tail (.tail (.tail (.tail (.tail (.tail (.tail (.tail (.tail (.tail .head))))))))))) (by omega) rfl rfl ?_ ?_ r.1 (.fresh (.func (fnBody (mkSt 3)) (envF (e.fd 3) L' (e.fn 3)))) ?_ A l R S p2 hA hT hI) (by refine Subp.of_cnt fun cc0 => ?_; simp only [cnt_append, cnt_cons, cnt_nil, diFr, diVs]; omega)
    · intro hr u A l R S hA hT hI
      refine Sg.nil (Sg.nil (Sg.nil (Sg.nil (Sg.nil (Sg.nil (Sg.again rfl ?_))))))
      exact (next hr (some (.ref q)) u A l R S hA hT hI).subp (by simp only [List.cons_append, List.nil_append]; walk_at "subp")
    · intro hr
      obtain ⟨rfl, rfl⟩ := hring hr
      refine ⟨rfl, fun u ex T' A l R S hA hT hI => ?_⟩
      refine Sg.forOutHeld rfl (Sg.funHeld rfl ?_)
      exact ⟨S, hI, ex, T', rfl, by walk_at "subp"⟩
    · exact ⟨_, _, _, .inl ⟨rfl, rfl, rfl⟩, gen.di hd L' k⟩
end
end

-- D4
section
local macro_rules | `(tactic| walk_at "gl") => `(tactic| with_reducible first | exact g_is_open' _ | exact g_RawJSON _)
local macro_rules | `(tactic| walk_at "bl") => `(tactic| with_reducible first | exact b_VE | exact b_isinstance | exact b_strT | exact b_bool | exact b_int | exact b_list | exact b_tuple | exact b_dict)
section
variable {B : Bx} {A : Around} {Ψ : Value → SH → Prop} {σ τ S R T : SH} {e : EC} {t : Th} {ind : Option Str} {env : Env}
theorem nameK_ok : ∀ j, EncOk (nameK j) (nameK j)
  | 0 => .b
  | 1 => .e
  | _ + 2 => .a
-- from the key to the value
theorem di_key {i m j : Nat} {way : List Nat} {L it ls : Addr} {lvl : Int} {k ksp kt : Tok} {n1 : Nat} {nlv : Value} {sep : Str} {its : List Value} {tp fin : SH} {v : Value} {K : Flow → Sem Fin} {ring : Bool} {psr : List Str} {p : Pos} {l : List Env} {ch cc : Option Value}
    (W : Wk e t B.w T) (eo : EOk e ind)
    (next : ∀ A l R S, Ok A l (n1 + 8) R → (∀ x ∈ T, x ∈ R) → I73 S → Sg B A (.forLoop (forTgt diFor) (.ref it) (forBdy diFor) [] (envF (e.fd 3) L (e.fn 3))) [forF (envF (e.fd 3) L (e.fn 3)) K (funE (envF (e.fd 3) L (e.fn 3))) (.func (fnBody (mkSt 3)) (envF (e.fd 3) L (e.fn 3))) p] ((execs ((forBdy diFor).drop 4) (envF (e.fd 3) L (e.fn 3))).wrap (forB (forTgt diFor) (.ref it) (forBdy diFor) [] (envF (e.fd 3) L (e.fn 3))) (forE (envF (e.fd 3) L (e.fn 3))) id id) (Post B I73 T (n1 + 8) ring fin R psr) (.o L (frameP diKs (diFr (.ref (t.ad i)) lvl k nlv (.str sep ksp) (.bool false) (.ref ls) (some (.str (nameK j) kt)) (some v) ch cc)) :: .o it (liP ls m) :: .o ls (listP its) :: .o e.m (listP (refs t (way ++ [i]))) :: (tp ++ (S ++ R))))
    (hA : Ok A l (n1 + 8) R) (hT : ∀ x ∈ T, x ∈ R) (hI : I73 S) :
    Sg B A (.forLoop (forTgt diFor) (.ref it) (forBdy diFor) [] (envF (e.fd 3) L (e.fn 3))) [forF (envF (e.fd 3) L (e.fn 3)) K (funE (envF (e.fd 3) L (e.fn 3))) (.func (fnBody (mkSt 3)) (envF (e.fd 3) L (e.fn 3))) p] ((execs ((forBdy diFor).drop 2) (envF (e.fd 3) L (e.fn 3))).wrap (forB (forTgt diFor) (.ref it) (forBdy diFor) [] (envF (e.fd 3) L (e.fn 3))) (forE (envF (e.fd 3) L (e.fn 3))) id id) (Post B I73 T (n1 + 8) ring fin R (keyT j :: Str.ofString ": " :: psr)) (.o L (frameP diKs (diFr (.ref (t.ad i)) lvl k nlv (.str sep ksp) (.bool false) (.ref ls) (some (.str (nameK j) kt)) (some v) ch cc)) :: .o it (liP ls m) :: .o ls (listP its) :: .o e.m (listP (refs t (way ++ [i]))) :: (tp ++ (S ++ R))) := by
  have E := EC.envOk (e := e) di_b L (e.fn 3)
  have W' := W.mono hT
  have gr := W'.gr
  obtain ⟨kk, hkk⟩ := eo.ksep
  have hksep : (Str.ofString "_key_separator", Value.str (Str.ofString ": ") kk) ∈ e.cells := by rw [← hkk]; walk_at "mem"
  have hh' : (A.deeper (envF (e.fd 3) L (e.fn 3))).handled = none := hA.hand
  have hr6 : Roomy (A.deeper (envF (e.fd 3) L (e.fn 3))) (0 + 6) := ⟨by have := hA.room.depth; show A.depth + 1 + 6 ≤ 600; omega, by have := hA.room.units; show A.units + 3 + 20 * 6 ≤ 8000; omega⟩
  refine Sg.cons (Sg.tell rfl rfl ?_)
  rw [over_for, over_func]
  walk_at "py"
  refine ⟨callee_K rfl rfl, ?_⟩
  refine Sw.subp (τ := .o L (frameP diKs (diFr (.ref (t.ad i)) lvl k nlv (.str sep ksp) (.bool false) (.ref ls) (some (.str (nameK j) kt)) (some v) ch cc)) :: (S ++ (.o it (liP ls m) :: .o ls (listP its) :: .o e.m (listP (refs t (way ++ [i]))) :: (tp ++ R)))) (enc_call (n := 0) (nameK_ok j) hh' hr6 hI ?_) (by walk_at "subp")
  intro tok S' hI'
  refine ⟨tok, .o L (frameP diKs (diFr (.ref (t.ad i)) lvl k nlv (.str sep ksp) (.bool false) (.ref ls) (some (.str (nameK j) kt)) (some v) ch cc)) :: .o it (liP ls m) :: .o ls (listP its) :: .o e.m (listP (refs t (way ++ [i]))) :: tp, S', rfl, hI', by walk_at "subp", ?_⟩
  refine Emits.c4 fun A l R S hA hT hI => ?_
  have W' := W.mono hT
  have gr := W'.gr
  refine Sg.cons (Sg.tell rfl rfl ?_)
  rw [over_for, over_func]
  walk_at "py"
  refine ⟨kk, .o L (frameP diKs (diFr (.ref (t.ad i)) lvl k nlv (.str sep ksp) (.bool false) (.ref ls) (some (.str (nameK j) kt)) (some v) ch cc)) :: .o it (liP ls m) :: .o ls (listP its) :: .o e.m (listP (refs t (way ++ [i]))) :: tp, S, rfl, hI, by walk_at "subp", ?_⟩
  exact Emits.c4 fun A l R S hA hT hI => next A l R S hA hT hI
theorem kv_zip (t : Th) (dn ps : List Int) : ((dn ++ ps).zipIdx.map fun x => (nameK x.2, t.pv x.1)) = (dn.zipIdx.map fun x => (nameK x.2, t.pv x.1)) ++ ((ps.zipIdx dn.length).map fun x => (nameK x.2, t.pv x.1)) := by
  rw [List.zipIdx_append, List.map_append, Nat.zero_add]
theorem di_loop {i : Nat} {way : List Nat} {L it ls : Addr} {lvl : Int} {k ksp : Tok} {n1 : Nat} {nlv : Value} {sep : Str} {its : List Value} {g : Nat → List Str × Bool} {cl : List Str} {fin : SH} {K : Flow → Sem Fin} {ring : Bool} {p : Pos}
    (W : Wk e t B.w T) (eo : EOk e ind) (hi : i < t.sz) (hd : t.isD i = true) (hpt : ∀ p ∈ t.pt i, -6 ≤ p ∧ p < t.sz)
    (gen : ∀ q ∈ t.pt i, 0 ≤ q → GenOk B T e t n1 (way ++ [i]) lvl (g q.toNat) q.toNat)
    (rest : ring = false → ∀ (first kv u ch cc) A l R S, Ok A l (n1 + 8) R → (∀ x ∈ T, x ∈ R) → I73 S → Sg B A (.func (fnBody (mkSt 3)) (envF (e.fd 3) L (e.fn 3))) [] (K .next) (Post B I73 T (n1 + 8) ring fin R cl)
      (.o L (frameP diKs (diFr (.ref (t.ad i)) lvl k nlv (.str sep ksp) first (.ref ls) kv u ch cc)) :: .o e.m (listP (refs t (way ++ [i]))) :: (S ++ R))) :
    ∀ (ps dn : List Int), t.pt i = dn ++ ps → ∀ (das as : List Addr) (ts : List Tok), its = (das ++ as).map .ref → das.length = dn.length → as.length = ps.length → ts.length = ps.length → ∀ (kv u ch cc : Option Value), (partsD sep g ps dn.length).2 = ring → ∀ A l R S, Ok A l (n1 + 8) R → (∀ x ∈ T, x ∈ R) → I73 S →
      Sg B A (.forLoop (forTgt diFor) (.ref it) (forBdy diFor) [] (envF (e.fd 3) L (e.fn 3))) [forF (envF (e.fd 3) L (e.fn 3)) K (funE (envF (e.fd 3) L (e.fn 3))) (.func (fnBody (mkSt 3)) (envF (e.fd 3) L (e.fn 3))) p] (denote table (.forLoop (forTgt diFor) (.ref it) (forBdy diFor) [] (envF (e.fd 3) L (e.fn 3)))) (Post B I73 T (n1 + 8) ring fin R (withCl (partsD sep g ps dn.length) cl))
        (.o L (frameP diKs (diFr (.ref (t.ad i)) lvl k nlv (.str sep ksp) (.bool dn.isEmpty) (.ref ls) kv u ch cc)) :: .o it (liP ls dn.length) :: .o ls (listP its) :: .o e.m (listP (refs t (way ++ [i]))) :: (tups as ((ps.zipIdx dn.length).map fun x => (nameK x.2, t.pv x.1)) ts ++ (S ++ R))) := by
  intro ps
  have E := EC.envOk (e := e) di_b L (e.fn 3)
  induction ps with
  | nil =>
    intro dn hdn das as ts hits hdas has hts kv u ch cc hr A l R S hA hT hI
    refine Sg.for1 ?_
    rw [over_func]
    have h0 : as = [] := List.length_eq_zero_iff.mp has
    subst h0
    refine Sw.next_list_end (l := ls) (vs := its) (i := dn.length) hA.hand (by walk_at "del") (by walk_at "mem") (by rw [hits]; simp [hdas]) ?_
    have hrf : ring = false := hr.symm
    exact (rest hrf (.bool dn.isEmpty) kv u ch cc A l R S hA hT hI).subp (by show Subp _ (_ :: _ :: _ :: (S ++ R)); walk_at "subp")
  | cons q ps ih =>
    intro dn hdn das as ts hits hdas has hts kv u ch cc hr A l R S hA hT hI
    match as, has, ts, hts with
    | a :: as, has, tk :: ts, hts =>
    have W' := W.mono hT
    have gr := W'.gr
    have hh' : (A.deeper (envF (e.fd 3) L (e.fn 3))).handled = none := hA.hand
    have hr' : Roomy (A.deeper (envF (e.fd 3) L (e.fn 3))) 0 := ⟨by have := hA.room.depth; show A.depth + 1 + 0 ≤ 600; omega, by have := hA.room.units; show A.units + 3 + 0 ≤ 8000; omega⟩
    rw [List.zipIdx_cons, List.map_cons, tups_cons]
    refine Sg.for1 ?_
    rw [over_func]
    refine Sw.next_list (l := ls) (vs := its) (i := dn.length) (v := .ref a) (by walk_at "upd") (by walk_at "mem") (by rw [hits]; simp [← hdas]) ?_
    refine Sw.letGo_li (l := ls) (i := dn.length + 1) (by walk_at "mem") ?_
    refine Sw.assign_pair (v1 := .str (nameK dn.length) tk) (v2 := t.pv q) hh' (by walk_at "mem") ?_
    refine Sw.assign_Name ?_
    refine Sw.st E (NPut.tail (.tail (.tail (.tail (.tail (.tail (.tail (.tail .head)))))))) ?_
    refine Sw.assign_Name ?_
    refine Sw.st E (NPut.tail (.tail (.tail (.tail (.tail (.tail (.tail (.tail (.tail .head))))))))) ?_
    refine Sg.cons (Sg.If ?_)
    rw [over_for, over_func]
    walk_at "py"
    refine Sw.is_plain rfl ?_
    walk_at "py"
    refine ite_pos (by rfl) ?_
    walk_at "py"
    refine ⟨trivial, isi_str_str _ _ _ hh' hr'.d hr'.u ?_⟩
    walk_at "py"
    refine Sg.nil ?_
    have hie : (dn ++ [q]).length = dn.length + 1 := by simp
    have hie2 : (dn ++ [q]).isEmpty = false := by simp
    -- the rest of the turns
    have more : ∀ (kv u ch cc : Option Value) A l R S, Ok A l (n1 + 8) R → (∀ x ∈ T, x ∈ R) → I73 S → (partsD sep g ps (dn.length + 1)).2 = ring →
        Sg B A (.forLoop (forTgt diFor) (.ref it) (forBdy diFor) [] (envF (e.fd 3) L (e.fn 3))) [forF (envF (e.fd 3) L (e.fn 3)) K (funE (envF (e.fd 3) L (e.fn 3))) (.func (fnBody (mkSt 3)) (envF (e.fd 3) L (e.fn 3))) p] (denote table (.forLoop (forTgt diFor) (.ref it) (forBdy diFor) [] (envF (e.fd 3) L (e.fn 3)))) (Post B I73 T (n1 + 8) ring fin R (withCl (partsD sep g ps (dn.length + 1)) cl))
        (.o L (frameP diKs (diFr (.ref (t.ad i)) lvl k nlv (.str sep ksp) (.bool false) (.ref ls) kv u ch cc)) :: .o it (liP ls (dn.length + 1)) :: .o ls (listP its) :: .o e.m (listP (refs t (way ++ [i]))) :: (tups as ((ps.zipIdx (dn.length + 1)).map fun x => (nameK x.2, t.pv x.1)) ts ++ (S ++ R))) := by
      intro kv u ch cc A l R S hA hT hI hr2
      have z := ih (dn ++ [q]) (by rw [hdn]; simp) (das ++ [a]) as ts (by rw [hits]; simp) (by simp [hdas]) (by simpa using has) (by simpa using hts) kv u ch cc (by rw [hie]; exact hr2) A l R S hA hT hI
      rw [hie, hie2] at z
      exact z
    -- the value
    have val : ∀ A l R S, Ok A l (n1 + 8) R → (∀ x ∈ T, x ∈ R) → I73 S → ∃ psr, withCl (partsD sep g (q :: ps) dn.length) cl = (if dn.length = 0 then [] else [sep]) ++ keyT dn.length :: Str.ofString ": " :: psr ∧
        Sg B A (.forLoop (forTgt diFor) (.ref it) (forBdy diFor) [] (envF (e.fd 3) L (e.fn 3))) [forF (envF (e.fd 3) L (e.fn 3)) K (funE (envF (e.fd 3) L (e.fn 3))) (.func (fnBody (mkSt 3)) (envF (e.fd 3) L (e.fn 3))) p] ((execs ((forBdy diFor).drop 4) (envF (e.fd 3) L (e.fn 3))).wrap (forB (forTgt diFor) (.ref it) (forBdy diFor) [] (envF (e.fd 3) L (e.fn 3))) (forE (envF (e.fd 3) L (e.fn 3))) id id) (Post B I73 T (n1 + 8) ring fin R psr)
        (.o L (frameP diKs (diFr (.ref (t.ad i)) lvl k nlv (.str sep ksp) (.bool false) (.ref ls) (some (.str (nameK dn.length) tk)) (some (t.pv q)) ch cc)) :: .o it (liP ls (dn.length + 1)) :: .o ls (listP its) :: .o e.m (listP (refs t (way ++ [i]))) :: (tups as ((ps.zipIdx (dn.length + 1)).map fun x => (nameK x.2, t.pv x.1)) ts ++ (S ++ R))) := by
      intro A l R S hA hT hI
      by_cases hq : q < 0
      · have pvq : t.pv q = wordV t (wix q) := by unfold Th.pv; rw [if_pos hq]
        have hr2 := hr
        simp only [partsD, if_pos hq] at hr2
        refine ⟨wordT (wix q) :: withCl (partsD sep g ps (dn.length + 1)) cl, ?_, ?_⟩
        · simp only [partsD, if_pos hq, withCl]; simp
        · rw [pvq]
          exact di_word W (fun ch cc A l R S hA hT hI => more _ _ ch cc A l R S hA hT hI hr2) hA hT hI
      · have hq0 : 0 ≤ q := Int.not_lt.mp hq
        have hmem : q ∈ t.pt i := by rw [hdn]; simp
        have hj : q.toNat < t.sz := by have := (hpt q hmem).2; omega
        have pvq : t.pv q = .ref (t.ad q.toNat) := by unfold Th.pv; rw [if_neg hq]
        have hr2 := hr
        simp only [partsD, if_neg hq] at hr2
        refine ⟨(g q.toNat).1 ++ (if (g q.toNat).2 then [] else withCl (partsD sep g ps (dn.length + 1)) cl), ?_, ?_⟩
        · simp only [partsD, if_neg hq, withCl]
          cases h2 : (g q.toNat).2 <;> simp
        · rw [pvq]
          refine di_thing W hj (gen q hmem hq0) (fun h2 => ?_) (fun h2 ch cc A l R S hA hT hI => ?_) hA hT hI
          · rw [h2] at hr2 ⊢; exact ⟨hr2.symm, rfl⟩
          · rw [h2] at hr2 ⊢
            simp only [Bool.false_eq_true, if_false] at hr2 ⊢
            exact more _ _ ch cc A l R S hA hT hI hr2
    refine Sg.cons (Sg.If ?_)
    rw [over_for, over_func]
    refine Sw.isTrue_Name ?_
    refine Sw.ld E (NAt.tail (.tail (.tail (.tail .head)))) ?_
    refine Sw.truthy_bool ?_
    obtain ⟨psr, hpc, _⟩ := val A l R S hA hT hI
    have val' : ∀ A l R S, Ok A l (n1 + 8) R → (∀ x ∈ T, x ∈ R) → I73 S → Sg B A (.forLoop (forTgt diFor) (.ref it) (forBdy diFor) [] (envF (e.fd 3) L (e.fn 3))) [forF (envF (e.fd 3) L (e.fn 3)) K (funE (envF (e.fd 3) L (e.fn 3))) (.func (fnBody (mkSt 3)) (envF (e.fd 3) L (e.fn 3))) p] ((execs ((forBdy diFor).drop 4) (envF (e.fd 3) L (e.fn 3))).wrap (forB (forTgt diFor) (.ref it) (forBdy diFor) [] (envF (e.fd 3) L (e.fn 3))) (forE (envF (e.fd 3) L (e.fn 3))) id id) (Post B I73 T (n1 + 8) ring fin R psr)
        (.o L (frameP diKs (diFr (.ref (t.ad i)) lvl k nlv (.str sep ksp) (.bool false) (.ref ls) (some (.str (nameK dn.length) tk)) (some (t.pv q)) ch cc)) :: .o it (liP ls (dn.length + 1)) :: .o ls (listP its) :: .o e.m (listP (refs t (way ++ [i]))) :: (tups as ((ps.zipIdx (dn.length + 1)).map fun x => (nameK x.2, t.pv x.1)) ts ++ (S ++ R))) := by
      intro A l R S hA hT hI
      obtain ⟨psr', hpc', z⟩ := val A l R S hA hT hI
      rw [hpc] at hpc'
      have h3 := List.append_cancel_left hpc'
      simp only [List.cons.injEq, true_and] at h3
      rw [h3]; exact z
    rw [hpc]
    cases hdd : dn.isEmpty with
    | true =>
      have hd0 : dn.length = 0 := by cases dn <;> simp_all
      refine ite_pos rfl ?_
      rw [if_pos hd0]
      refine Sg.cons (Sg.stm ?_)
      rw [over_for, over_func]
      refine Sw.s_Assign_Name (Sw.e_Const_bool (Sw.st E (NPut.tail (.tail (.tail (.tail .head)))) ?_))
      refine Sg.nil ?_
      exact (di_key (tp := tups as ((ps.zipIdx (dn.length + 1)).map fun x => (nameK x.2, t.pv x.1)) ts) W eo val' hA hT hI).subp (by refine Subp.of_cnt fun cc0 => ?_; simp only [cnt_append, cnt_cons, cnt_nil, diFr]; omega)
    | false =>
      have hd0 : ¬ dn.length = 0 := by cases dn <;> simp_all
      refine ite_neg Bool.false_ne_true ?_
      rw [if_neg hd0]
      refine Sg.cons (Sg.tell rfl rfl ?_)
      rw [over_for, over_func]
      refine Sw.ld E (NAt.tail (.tail (.tail .head))) ?_
      refine ⟨ksp, .o L (frameP diKs (diFr (.ref (t.ad i)) lvl k nlv (.str sep ksp) (.bool false) (.ref ls) (some (.str (nameK dn.length) tk)) (some (t.pv q)) ch cc)) :: .o it (liP ls (dn.length + 1)) :: .o ls (listP its) :: .o e.m (listP (refs t (way ++ [i]))) :: tups as ((ps.zipIdx (dn.length + 1)).map fun x => (nameK x.2, t.pv x.1)) ts, S, rfl, hI, by refine Subp.of_cnt fun cc0 => ?_; simp only [cnt_append, cnt_cons, cnt_nil, diFr]; omega, ?_⟩
      refine Emits.c4 fun A l R S hA hT hI => ?_
      refine Sg.nil ?_
      exact di_key (tp := tups as ((ps.zipIdx (dn.length + 1)).map fun x => (nameK x.2, t.pv x.1)) ts) W eo val' hA hT hI
end
end

-- D5
section
local macro_rules | `(tactic| walk_at "gl") => `(tactic| with_reducible first | exact g_is_open' _ | exact g_RawJSON _)
local macro_rules | `(tactic| walk_at "bl") => `(tactic| with_reducible first | exact b_VE | exact b_isinstance | exact b_strT | exact b_bool | exact b_int | exact b_list | exact b_tuple | exact b_dict)
section
variable {B : Bx} {A : Around} {Ψ : Value → SH → Prop} {σ τ S R T : SH} {e : EC} {t : Th} {ind : Option Str}
theorem kv_len (t : Th) (i : Nat) : (t.kv i).length = (t.pt i).length := by simp [Th.kv]
theorem di_empty {i : Nat} {lvl : Int} {way : List Nat} {L : Addr} {k : Tok} {n : Nat} (W : Wk e t B.w T) (hi : i < t.sz) (hl : t.isD i = true) (hp : t.pt i = []) (hsm : (t.ad i == sysModules) = false) :
    Emits B I73 T n false [.o e.m (listP (refs t way))] [Str.ofString "{}"] (.func (fnBody (mkSt 3)) (envF (e.fd 3) L (e.fn 3))) (denote table (.func (fnBody (mkSt 3)) (envF (e.fd 3) L (e.fn 3)))) []
      [.o L (frameP diKs (diVs (.ref (t.ad i)) lvl k)), .o e.m (listP (refs t way))] := by
  refine Emits.start (Emits.c2 fun A l R S hA hT hI => ?_)
  have E := EC.envOk (e := e) di_b L (e.fn 3)
  have hth := hT _ (W.th i hi)
  simp only [Th.word, hl, if_true] at hth
  refine Sg.cons (Sg.If ?_)
  rw [over_func]
  walk_at "py"
  refine Sw.truthyD (kvs := t.kv i) (by walk_at "mem") hsm (by rw [kv_len, hp]; decide) ?_
  have he : (!!(t.kv i).isEmpty) = true := by simp [Th.kv, hp]
  rw [he]
  refine ite_pos rfl ?_
  refine Sg.cons (Sg.tell rfl rfl ?_)
  rw [over_func]
  refine Sw.e_Const_str ?_
  intro tok
  refine ⟨tok, [.o L (frameP diKs (diVs (.ref (t.ad i)) lvl k)), .o e.m (listP (refs t way))], S, rfl, hI, by walk_at "subp", ?_⟩
  refine Emits.c2 fun A l R S hA hT hI => ?_
  refine Sg.cons (Sg.stm ?_)
  refine Sw.s_Return0 ?_
  refine Sg.end_ (r := .ok (.ret .none)) ?_
  exact ⟨S, hI, _, rfl, rfl, by walk_at "subp"⟩
theorem di_ring {i : Nat} {lvl : Int} {way : List Nat} {L : Addr} {k : Tok} {n : Nat} {fin : SH} (W : Wk e t B.w T) (hi : i < t.sz) (hl : t.isD i = true) (hp : t.pt i ≠ []) (hlen : (t.pt i).length ≤ 3) (hsm : (t.ad i == sysModules) = false) (hw : i ∈ way) (hways : ∀ j ∈ way, j < t.sz) :
    Emits B I73 T (n + 8) true fin [] (.func (fnBody (mkSt 3)) (envF (e.fd 3) L (e.fn 3))) (denote table (.func (fnBody (mkSt 3)) (envF (e.fd 3) L (e.fn 3)))) []
      [.o L (frameP diKs (diVs (.ref (t.ad i)) lvl k)), .o e.m (listP (refs t way))] := by
  refine Emits.start (Emits.c2 fun A l R S hA hT hI => ?_)
  have E := EC.envOk (e := e) di_b L (e.fn 3)
  have W' := W.mono hT
  have gr := W'.gr
  have hth := W'.th i hi
  simp only [Th.word, hl, if_true] at hth
  have hr' : Roomy (A.deeper (envF (e.fd 3) L (e.fn 3))) (n + 7) := hA.room.deeper
  have hh' : (A.deeper (envF (e.fd 3) L (e.fn 3))).handled = none := hA.hand
  refine Sg.cons (Sg.If ?_)
  rw [over_func]
  walk_at "py"
  refine Sw.truthyD (kvs := t.kv i) (by walk_at "mem") hsm (by rw [kv_len]; omega) ?_
  have he : (!!(t.kv i).isEmpty) = false := by simp [Th.kv, hp]
  rw [he]
  refine ite_neg Bool.false_ne_true ?_
  refine Sg.nil ?_
  refine Sg.cons (Sg.If ?_)
  rw [over_func]
  walk_at "py"
  refine Sw.isnot_plain rfl ?_
  walk_at "py"
  refine ite_pos (by rfl) ?_
  refine Sg.cons (Sg.If ?_)
  rw [over_func]
  walk_at "py"
  refine ⟨callee_K rfl rfl, ?_⟩
  refine isOpen_call (ms := way.map t.ad) (hr'.le (by omega)) hh' (by walk_at "mem") ?_ ?_
  · intro a ha
    have : ∃ j, j < t.sz ∧ a = t.ad j := by
      rcases List.mem_cons.mp ha with rfl | ha
      · exact ⟨i, hi, rfl⟩
      · obtain ⟨j, hj, rfl⟩ := List.mem_map.mp ha
        exact ⟨j, hways j hj, rfl⟩
    obtain ⟨j, hj, rfl⟩ := this
    exact Th.solid W' hj fun c hc => by walk_at "mem"
  rw [decide_eq_true (List.mem_map_of_mem hw)]
  walk_at "py"
  refine Sg.cons (Sg.stm ?_)
  rw [over_func]
  refine Sw.raiseVE hh' ?_
  walk_at "py"
  refine ⟨rfl, ?_⟩
  refine Args.cons (Sw.e_Const_str ?_)
  intro _
  refine Args.nil ⟨by rw [sizeLine_eq]; exact Nat.le_of_ble_eq_true rfl, fun ex => ?_⟩
  refine Sg.funFirst (l := l) (fs0 := []) rfl (by rw [over_func]; exact Around.frames_deeper hA.fr) (Frs.cons (hA.frs.sub fun c hc => by walk_at "mem") (by rw [E.kind]; decide) rfl List.mem_cons_self) ?_
  intro T'
  exact ⟨S, hI, ex, T', rfl, by walk_at "subp"⟩
theorem di_start {i : Nat} {way : List Nat} {L : Addr} {k : Tok} {n1 : Nat} {lvl : Int} {ps : List Str} {ring : Bool} {fin : SH} (W : Wk e t B.w T) (hi : i < t.sz) (hl : t.isD i = true) (hp : t.pt i ≠ []) (hlen : (t.pt i).length ≤ 3) (hsm : (t.ad i == sysModules) = false)
    (hw : i ∉ way) (hwl : way.length < 10) (hways : ∀ j ∈ way, j < t.sz) (inj : ∀ i j, i < t.sz → j < t.sz → t.ad i = t.ad j → i = j)
    (next : ∀ A l R S, Ok A l (n1 + 8) R → (∀ x ∈ T, x ∈ R) → I73 S → Sg B A (.func (fnBody (mkSt 3)) (envF (e.fd 3) L (e.fn 3))) [] ((execs ((fnBody (mkSt 3)).drop 3) (envF (e.fd 3) L (e.fn 3))).wrap funK (funE (envF (e.fd 3) L (e.fn 3))) id id) (Post B I73 T (n1 + 8) ring fin R ps)
      (.o L (frameP diKs (diVs (.ref (t.ad i)) lvl k)) :: .o e.m (listP (refs t (way ++ [i]))) :: (S ++ R))) :
    Emits B I73 T (n1 + 8) ring fin (Str.ofString "{" :: ps) (.func (fnBody (mkSt 3)) (envF (e.fd 3) L (e.fn 3))) (denote table (.func (fnBody (mkSt 3)) (envF (e.fd 3) L (e.fn 3)))) []
      [.o L (frameP diKs (diVs (.ref (t.ad i)) lvl k)), .o e.m (listP (refs t way))] := by
  refine Emits.start (Emits.c2 fun A l R S hA hT hI => ?_)
  have E := EC.envOk (e := e) di_b L (e.fn 3)
  have W' := W.mono hT
  have gr := W'.gr
  have hth := W'.th i hi
  simp only [Th.word, hl, if_true] at hth
  have hr' : Roomy (A.deeper (envF (e.fd 3) L (e.fn 3))) (n1 + 7) := hA.room.deeper
  have hh' : (A.deeper (envF (e.fd 3) L (e.fn 3))).handled = none := hA.hand
  refine Sg.cons (Sg.If ?_)
  rw [over_func]
  walk_at "py"
  refine Sw.truthyD (kvs := t.kv i) (by walk_at "mem") hsm (by rw [kv_len]; omega) ?_
  have he : (!!(t.kv i).isEmpty) = false := by simp [Th.kv, hp]
  rw [he]
  refine ite_neg Bool.false_ne_true ?_
  refine Sg.nil ?_
  refine Sg.cons (Sg.If ?_)
  rw [over_func]
  walk_at "py"
  refine Sw.isnot_plain rfl ?_
  walk_at "py"
  refine ite_pos (by rfl) ?_
  refine Sg.cons (Sg.If ?_)
  rw [over_func]
  walk_at "py"
  refine ⟨callee_K rfl rfl, ?_⟩
  refine isOpen_call (ms := way.map t.ad) (hr'.le (by omega)) hh' (by walk_at "mem") ?_ ?_
  · intro a ha
    have : ∃ j, j < t.sz ∧ a = t.ad j := by
      rcases List.mem_cons.mp ha with rfl | ha
      · exact ⟨i, hi, rfl⟩
      · obtain ⟨j, hj, rfl⟩ := List.mem_map.mp ha
        exact ⟨j, hways j hj, rfl⟩
    obtain ⟨j, hj, rfl⟩ := this
    exact Th.solid W' hj fun c hc => by walk_at "mem"
  have hnw : t.ad i ∉ way.map t.ad := fun h => by
    obtain ⟨j, hj, q⟩ := List.mem_map.mp h
    exact hw (inj j i (hways j hj) hi q ▸ hj)
  rw [decide_eq_false hnw]
  walk_at "py"
  refine Sg.nil ?_
  refine Sg.cons (Sg.stm ?_)
  rw [over_func]
  refine Sw.s_ExprA ?_
  refine Sw.e_Call_Meth F.plainAttrs_list F.slot_list_append F.type_list_append ?_
  walk_at "py"
  refine ⟨MethOn.own (P := listP (refs t way)) (by walk_at "mem") (fun o ho => by obtain ⟨n, rfl⟩ := ho; exact ⟨rfl, rfl⟩), ?_⟩
  walk_at "py"
  refine Sw.appendL (by walk_at "upd") (by simp; omega) ?_
  rw [← refs_snoc]
  refine Sg.nil ?_
  refine Sg.cons (Sg.tell rfl rfl ?_)
  rw [over_func]
  refine Sw.e_Const_str ?_
  intro tok
  refine ⟨tok, [.o L (frameP diKs (diVs (.ref (t.ad i)) lvl k)), .o e.m (listP (refs t (way ++ [i])))], S, rfl, hI, by walk_at "subp", ?_⟩
  exact Emits.c2 next
theorem di_end {i : Nat} {way : List Nat} {L : Addr} {vs : List (Option Value)} {n : Nat} {l : List Env} (W : Wk e t B.w T) (hwl : way.length < 10) (hA : Ok A l n R) (hT : ∀ x ∈ T, x ∈ R) (hI : I73 S) :
    Sg B A (.func (fnBody (mkSt 3)) (envF (e.fd 3) L (e.fn 3))) [] ((execs ((fnBody (mkSt 3)).drop 8) (envF (e.fd 3) L (e.fn 3))).wrap funK (funE (envF (e.fd 3) L (e.fn 3))) id id) (Post B I73 T n false [.o e.m (listP (refs t way))] R [Str.ofString "}"])
      (.o L (frameP diKs vs) :: .o e.m (listP (refs t (way ++ [i]))) :: (S ++ R)) := by
  have E := EC.envOk (e := e) di_b L (e.fn 3)
  refine Sg.cons (Sg.tell rfl rfl ?_)
  rw [over_func]
  refine Sw.e_Const_str ?_
  intro tok
  refine ⟨tok, [.o L (frameP diKs vs), .o e.m (listP (refs t (way ++ [i])))], S, rfl, hI, by walk_at "subp", ?_⟩
  refine Emits.c2 fun A l R S hA hT hI => ?_
  have W' := W.mono hT
  have gr := W'.gr
  refine Sg.cons (Sg.If ?_)
  rw [over_func]
  walk_at "py"
  refine Sw.isnot_plain rfl ?_
  walk_at "py"
  refine ite_pos (by rfl) ?_
  refine Sg.cons (Sg.stm ?_)
  rw [over_func]
  refine Sw.s_ExprA ?_
  refine Sw.e_Call_Meth F.plainAttrs_list F.slot_list_pop F.type_list_pop ?_
  walk_at "py"
  refine ⟨MethOn.own (P := listP (refs t (way ++ [i]))) (by walk_at "mem") (fun o ho => by obtain ⟨n, rfl⟩ := ho; exact ⟨rfl, rfl⟩), ?_⟩
  walk_at "py"
  rw [refs_snoc]
  refine Sw.popL (by walk_at "upd") (by simp; omega) ?_
  refine Sg.nil (Sg.nil ?_)
  exact Sg.end_ (r := .ok (.ret .none)) ⟨S, hI, _, rfl, rfl, by walk_at "subp"⟩
end
end

-- D6
section
local macro_rules | `(tactic| walk_at "gl") => `(tactic| with_reducible first | exact g_is_open' _ | exact g_RawJSON _)
local macro_rules | `(tactic| walk_at "bl") => `(tactic| with_reducible first | exact b_VE | exact b_isinstance | exact b_strT | exact b_bool | exact b_int | exact b_list | exact b_tuple | exact b_dict)
section
variable {B : Bx} {A : Around} {Ψ : Value → SH → Prop} {σ τ S R T : SH} {e : EC} {t : Th} {ind : Option Str}
-- from «first = True» through the loop
theorem di_mid {i : Nat} {way : List Nat} {L : Addr} {lvl : Int} {k ksp : Tok} {n1 : Nat} {nlv : Value} {sep : Str} {g : Nat → List Str × Bool} {cl : List Str} {fin : SH} {ring : Bool} {l : List Env}
    (W : Wk e t B.w T) (eo : EOk e ind) (hi : i < t.sz) (hd : t.isD i = true) (hp : t.pt i ≠ []) (hlen : (t.pt i).length ≤ 3) (hsm : (t.ad i == sysModules) = false) (hpt : ∀ p ∈ t.pt i, -6 ≤ p ∧ p < t.sz)
    (gen : ∀ q ∈ t.pt i, 0 ≤ q → GenOk B T e t n1 (way ++ [i]) lvl (g q.toNat) q.toNat)
    (rest : ring = false → ∀ (ls : Addr) (first) (kv u ch cc) A l R S, Ok A l (n1 + 8) R → (∀ x ∈ T, x ∈ R) → I73 S → Sg B A (.func (fnBody (mkSt 3)) (envF (e.fd 3) L (e.fn 3))) [] ((execs ((fnBody (mkSt 3)).drop 7) (envF (e.fd 3) L (e.fn 3))).wrap funK (funE (envF (e.fd 3) L (e.fn 3))) id id) (Post B I73 T (n1 + 8) ring fin R cl)
      (.o L (frameP diKs (diFr (.ref (t.ad i)) lvl k nlv (.str sep ksp) first (.ref ls) kv u ch cc)) :: .o e.m (listP (refs t (way ++ [i]))) :: (S ++ R)))
    (hr : (partsD sep g (t.pt i) 0).2 = ring) (hA : Ok A l (n1 + 8) R) (hT : ∀ x ∈ T, x ∈ R) (hI : I73 S) :
    Sg B A (.func (fnBody (mkSt 3)) (envF (e.fd 3) L (e.fn 3))) [] ((execs ((fnBody (mkSt 3)).drop 4) (envF (e.fd 3) L (e.fn 3))).wrap funK (funE (envF (e.fd 3) L (e.fn 3))) id id) (Post B I73 T (n1 + 8) ring fin R (withCl (partsD sep g (t.pt i) 0) cl))
      (.o L (frameP diKs [some (.ref (t.ad i)), some (.int lvl k), some nlv, some (.str sep ksp), none, none, none, none, none, none, none, none]) :: .o e.m (listP (refs t (way ++ [i]))) :: (S ++ R)) := by
  have E := EC.envOk (e := e) di_b L (e.fn 3)
  have W' := W.mono hT
  have gr := W'.gr
  have hth := W'.th i hi
  simp only [Th.word, hd, if_true] at hth
  have hh' : (A.deeper (envF (e.fd 3) L (e.fn 3))).handled = none := hA.hand
  refine Sg.cons (Sg.stm ?_)
  rw [over_func]
  walk_at "py"
  refine Sg.cons (Sg.If ?_)
  rw [over_func]
  walk_at "py"
  refine Sw.isnot_plain rfl ?_
  walk_at "py"
  refine ite_neg (by decide) ?_
  refine Sg.cons (Sg.stm ?_)
  rw [over_func]
  refine Sw.s_Assign_Name ?_
  refine Sw.e_Call_Name ?_
  walk_at "py"
  refine Sw.e_Call_Meth F.plainAttrs_dict F.slot_dict_items F.type_dict_items ?_
  walk_at "py"
  refine ⟨MethOn.own (P := dictP B.w (t.kv i)) (by walk_at "mem") (fun o ho => ⟨ho.1.1, ho.1.2.1⟩), ?_⟩
  walk_at "py"
  refine items_call (kvs := t.kv i) (by walk_at "mem") hsm ?_
  intro v
  walk_at "py"
  refine ⟨trivial, ?_⟩
  refine list_items (d := t.ad i) (kvs := t.kv i) (by walk_at "mem") (by walk_at "mem") (by rw [kv_len]; omega) hh' ?_
  intro ls as ts has hts
  walk_at "py"
  refine Sg.nil ?_
  refine Sg.cons (Sg.For ?_)
  rw [over_func]
  walk_at "py"
  refine Sw.iter_list (vs := as.map .ref) (by walk_at "mem") ?_
  intro it p
  rw [kv_len] at has hts
  refine Sg.subp (di_loop (its := as.map .ref) (nlv := nlv) (k := k) (ksp := ksp) (ls := ls) (it := it) (lvl := lvl) (p := p) W eo hi hd hpt gen ?_ (t.pt i) [] rfl [] as ts (by simp) rfl has hts none none none none hr A l R S hA hT hI) (by refine Subp.of_cnt fun cc0 => ?_; simp only [cnt_append, cnt_cons, diFr, Th.kv, List.length_nil, List.isEmpty_nil]; omega)
  intro hring first kv u ch cc A l R S hA hT hI
  exact rest hring ls first kv u ch cc A l R S hA hT hI
theorem di_go_none {i deep : Nat} {way : List Nat} {L : Addr} {k : Tok} {n1 : Nat} {lvl : Int} {g : Nat → List Str × Bool} (W : Wk e t B.w T) (eo : EOk e none) (hi : i < t.sz) (hd : t.isD i = true) (hp : t.pt i ≠ []) (hlen : (t.pt i).length ≤ 3) (hsm : (t.ad i == sysModules) = false) (hpt : ∀ p ∈ t.pt i, -6 ≤ p ∧ p < t.sz)
    (hw : i ∉ way) (hwl : way.length < 10) (hways : ∀ j ∈ way, j < t.sz) (inj : ∀ i j, i < t.sz → j < t.sz → t.ad i = t.ad j → i = j)
    (gen : ∀ q ∈ t.pt i, 0 ≤ q → GenOk B T e t n1 (way ++ [i]) lvl (g q.toNat) q.toNat) :
    Emits B I73 T (n1 + 8) (partsD (sepI none ++ nlI none (deep + 1)) g (t.pt i) 0).2 [.o e.m (listP (refs t way))] (Str.ofString "{" :: withCl (partsD (sepI none ++ nlI none (deep + 1)) g (t.pt i) 0) (closeI none deep (Str.ofString "}"))) (.func (fnBody (mkSt 3)) (envF (e.fd 3) L (e.fn 3))) (denote table (.func (fnBody (mkSt 3)) (envF (e.fd 3) L (e.fn 3)))) []
      [.o L (frameP diKs (diVs (.ref (t.ad i)) lvl k)), .o e.m (listP (refs t way))] := by
  refine di_start W hi hd hp hlen hsm hw hwl hways inj fun A l R S hA hT hI => ?_
  have E := EC.envOk (e := e) di_b L (e.fn 3)
  have W' := W.mono hT
  have gr := W'.gr
  refine Sg.cons (Sg.If ?_)
  rw [over_func]
  walk_at "py"
  obtain ⟨ki, hki⟩ := eo.indt
  obtain ⟨ks, hks⟩ := eo.isep
  rw [show e.ind = .none from hki]
  refine Sw.isnot_plain rfl ?_
  walk_at "py"
  refine ite_neg (by decide) ?_
  refine Sg.cons (Sg.stm ?_)
  rw [over_func]
  walk_at "py"
  refine Sg.cons (Sg.stm ?_)
  rw [over_func]
  walk_at "py"
  refine Sg.nil ?_
  rw [hks]
  refine di_mid (sep := sepI none ++ nlI none (deep + 1)) (nlv := .none) W eo hi hd hp hlen hsm hpt gen ?_ rfl hA hT hI
  intro hring ls first kv u ch cc A l R S hA hT hI
  rw [hring]
  have W' := W.mono hT
  have gr := W'.gr
  refine Sg.cons (Sg.If ?_)
  rw [over_func]
  walk_at "py"
  refine Sw.isnot_plain rfl ?_
  walk_at "py"
  refine ite_neg (by decide) ?_
  refine Sg.nil ?_
  exact di_end W hwl hA hT hI
theorem di_go_some {s : Str} {i deep : Nat} {way : List Nat} {L : Addr} {k : Tok} {n1 : Nat} {g : Nat → List Str × Bool} (W : Wk e t B.w T) (eo : EOk e (some s)) (hi : i < t.sz) (hd : t.isD i = true) (hp : t.pt i ≠ []) (hlen : (t.pt i).length ≤ 3) (hsm : (t.ad i == sysModules) = false) (hpt : ∀ p ∈ t.pt i, -6 ≤ p ∧ p < t.sz)
    (hw : i ∉ way) (hwl : way.length < 10) (hways : ∀ j ∈ way, j < t.sz) (inj : ∀ i j, i < t.sz → j < t.sz → t.ad i = t.ad j → i = j) (hdeep : deep < 50)
    (gen : ∀ q ∈ t.pt i, 0 ≤ q → GenOk B T e t n1 (way ++ [i]) ((deep + 1 : Nat) : Int) (g q.toNat) q.toNat) :
    Emits B I73 T (n1 + 8) (partsD (sepI (some s) ++ nlI (some s) (deep + 1)) g (t.pt i) 0).2 [.o e.m (listP (refs t way))] (Str.ofString "{" :: nlI (some s) (deep + 1) :: withCl (partsD (sepI (some s) ++ nlI (some s) (deep + 1)) g (t.pt i) 0) (closeI (some s) deep (Str.ofString "}"))) (.func (fnBody (mkSt 3)) (envF (e.fd 3) L (e.fn 3))) (denote table (.func (fnBody (mkSt 3)) (envF (e.fd 3) L (e.fn 3)))) []
      [.o L (frameP diKs (diVs (.ref (t.ad i)) (deep : Int) k)), .o e.m (listP (refs t way))] := by
  have hsl : s.length ≤ 2 := eo.short s rfl
  refine di_start W hi hd hp hlen hsm hw hwl hways inj fun A l R S hA hT hI => ?_
  have E := EC.envOk (e := e) di_b L (e.fn 3)
  have W' := W.mono hT
  have gr := W'.gr
  obtain ⟨ki, hki⟩ := eo.indt
  obtain ⟨ks, hks⟩ := eo.isep
  have hki' : e.ind = .str s ki := hki
  have hks' : e.isep = .str (Str.ofString ",") ks := hks
  have hind : (Str.ofString "_indent", Value.str s ki) ∈ e.cells := by rw [← hki']; walk_at "mem"
  have hsep : (Str.ofString "_item_separator", Value.str (Str.ofString ",") ks) ∈ e.cells := by rw [← hks']; walk_at "mem"
  refine Sg.cons (Sg.If ?_)
  rw [over_func]
  walk_at "py"
  refine Sw.isnot_plain rfl ?_
  walk_at "py"
  refine ite_pos (by rfl) ?_
  refine Sg.cons (Sg.stm ?_)
  rw [over_func]
  walk_at "py"
  refine Sw.iaddI ?_
  intro k1
  walk_at "py"
  refine Sg.cons (Sg.stm ?_)
  rw [over_func]
  walk_at "py"
  refine Sw.mulStr (n := deep + 1) hsl (by omega) ?_
  intro k2
  refine Sw.addStr ?_ (by rw [sizeLine_eq]; have := rep_len s hsl (deep + 1); show 1 + _ ≤ _; omega)
  intro k3
  walk_at "py"
  refine Sg.cons (Sg.stm ?_)
  rw [over_func]
  walk_at "py"
  refine Sw.addStr ?_ (by rw [sizeLine_eq]; have := nl_len hsl (n := deep + 1) (by omega); show 1 + _ ≤ _; omega)
  intro k4
  walk_at "py"
  refine Sg.cons (Sg.tell rfl rfl ?_)
  rw [over_func]
  walk_at "py"
  refine ⟨k3, [.o L (frameP diKs _), .o e.m (listP (refs t (way ++ [i])))], S, rfl, hI, Subp.refl _, ?_⟩
  refine Emits.c2 fun A l R S hA hT hI => ?_
  refine Sg.nil ?_
  refine di_mid (sep := sepI (some s) ++ nlI (some s) (deep + 1)) (nlv := .str (nlI (some s) (deep + 1)) k3) (lvl := ((deep + 1 : Nat) : Int)) W eo hi hd hp hlen hsm hpt gen ?_ rfl hA hT hI
  intro hring ls first kv u ch cc A l R S hA hT hI
  rw [hring]
  have W' := W.mono hT
  have gr := W'.gr
  refine Sg.cons (Sg.If ?_)
  rw [over_func]
  walk_at "py"
  refine Sw.isnot_plain rfl ?_
  walk_at "py"
  refine ite_pos (by rfl) ?_
  refine Sg.cons (Sg.stm ?_)
  rw [over_func]
  walk_at "py"
  refine Sw.isubI ?_
  intro k6
  walk_at "py"
  rw [show (((deep + 1 : Nat) : Int) - 1) = (deep : Int) from by omega]
  refine Sg.cons (Sg.tell rfl rfl ?_)
  rw [over_func]
  walk_at "py"
  refine Sw.mulStr (n := deep) hsl (by omega) ?_
  intro k7
  refine Sw.addStr ?_ (by rw [sizeLine_eq]; have := rep_len s hsl deep; show 1 + _ ≤ _; omega)
  intro tok
  refine ⟨tok, [.o L (frameP diKs _), .o e.m (listP (refs t (way ++ [i])))], S, rfl, hI, Subp.refl _, ?_⟩
  refine Emits.c2 fun A l R S hA hT hI => ?_
  refine Sg.nil ?_
  exact di_end W hwl hA hT hI
end
end

-- D7
section
theorem nodup_len : ∀ (n : Nat) (l : List Nat), l.Nodup → (∀ x ∈ l, x < n) → l.length ≤ n
  | 0, [], _, _ => Nat.le_refl _
  | 0, x :: l, _, h => absurd (h x (.head _)) (Nat.not_lt_zero _)
  | n + 1, l, hn, h => by
    have h1 := nodup_len n (l.erase n) (hn.erase n) (fun x hx => by
      have h2 := (hn.mem_erase_iff).mp hx
      have h3 := h x h2.2
      omega)
    by_cases hm : n ∈ l
    · have := List.length_erase_of_mem hm; omega
    · rw [List.erase_of_not_mem hm] at h1; omega
section
variable {B : Bx} {A : Around} {Ψ : Value → SH → Prop} {σ τ S R T : SH} {e : EC} {t : Th} {ind : Option Str}
theorem told_empty {f i deep : Nat} {way : List Nat} (hp : t.pt i = []) : told t ind (f + 1) i deep way = ([if t.isD i then Str.ofString "{}" else Str.ofString "[]"], false) := by
  simp only [told, hp, List.isEmpty_nil, if_true]
theorem told_ring {f i deep : Nat} {way : List Nat} (hp : t.pt i ≠ []) (hw : i ∈ way) : told t ind (f + 1) i deep way = ([], true) := by
  have : (t.pt i).isEmpty = false := by simp [hp]
  simp only [told, this, Bool.false_eq_true, if_false, if_pos hw]
theorem told_list {f i deep : Nat} {way : List Nat} (hp : t.pt i ≠ []) (hw : i ∉ way) (hd : t.isD i = false) :
    told t ind (f + 1) i deep way = (withCl (partsL (Str.ofString "[" ++ nlI ind (deep + 1)) (sepI ind ++ nlI ind (deep + 1)) (fun j => told t ind f j (deep + 1) (way ++ [i])) (t.pt i) true) (closeI ind deep (Str.ofString "]")),
      (partsL (Str.ofString "[" ++ nlI ind (deep + 1)) (sepI ind ++ nlI ind (deep + 1)) (fun j => told t ind f j (deep + 1) (way ++ [i])) (t.pt i) true).2) := by
  have : (t.pt i).isEmpty = false := by simp [hp]
  simp only [told, this, Bool.false_eq_true, if_false, if_neg hw, hd, withCl]
  generalize partsL _ _ _ (t.pt i) true = r
  obtain ⟨a, b⟩ := r
  cases b <;> simp
theorem told_dict {f i deep : Nat} {way : List Nat} (hp : t.pt i ≠ []) (hw : i ∉ way) (hd : t.isD i = true) :
    told t ind (f + 1) i deep way = (Str.ofString "{" :: ((match ind with | none => [] | some _ => [nlI ind (deep + 1)]) ++ withCl (partsD (sepI ind ++ nlI ind (deep + 1)) (fun j => told t ind f j (deep + 1) (way ++ [i])) (t.pt i) 0) (closeI ind deep (Str.ofString "}"))),
      (partsD (sepI ind ++ nlI ind (deep + 1)) (fun j => told t ind f j (deep + 1) (way ++ [i])) (t.pt i) 0).2) := by
  have : (t.pt i).isEmpty = false := by simp [hp]
  simp only [told, this, Bool.false_eq_true, if_false, if_neg hw, hd, withCl, if_true]
  generalize partsD _ _ (t.pt i) 0 = r
  obtain ⟨a, b⟩ := r
  cases b <;> cases ind <;> simp
theorem gen_ok (W : Wk e t B.w T) (eo : EOk e ind) (to : t.Ok) (hsz : t.sz ≤ 3) : ∀ (f deep : Nat) (way : List Nat) (lvl : Int), way.Nodup → (∀ j ∈ way, j < t.sz) → f + way.length = 4 → deep = way.length → (ind ≠ none → lvl = (deep : Int)) →
    ∀ i, i < t.sz → GenOk B T e t (8 * f) way lvl (told t ind f i deep way) i := by
  intro f
  induction f with
  | zero =>
    intro deep way lvl hnd hways hf _ _ i hi
    have := nodup_len _ way hnd hways
    omega
  | succ f ih =>
    intro deep way lvl hnd hways hf hdeep hlvl i hi
    have hlen := to.len i hi
    have hlow := to.low i hi
    have hsm := to.sys i hi
    have hwl : way.length < 10 := by omega
    by_cases hp : t.pt i = []
    · rw [told_empty hp]
      refine ⟨fun hd L k => ?_, fun hd L k => ?_⟩
      · rw [hd]; exact li_emptyA W hi hd hp
      · rw [hd]; exact di_empty W hi hd hp hsm
    by_cases hw : i ∈ way
    · rw [told_ring hp hw]
      exact ⟨fun hd L k => li_ringA W hi hd hp hlen hw hways, fun hd L k => di_ring W hi hd hp hlen hsm hw hways⟩
    have hnd' : (way ++ [i]).Nodup := List.nodup_append.mpr ⟨hnd, List.nodup_cons.mpr ⟨List.not_mem_nil, List.nodup_nil⟩, fun a ha b hb q => hw (by rcases List.mem_singleton.mp hb with rfl; exact q ▸ ha)⟩
    have hways' : ∀ j ∈ way ++ [i], j < t.sz := fun j hj => by
      rcases List.mem_append.mp hj with hj | hj
      · exact hways j hj
      · rcases List.mem_singleton.mp hj with rfl; exact hi
    have gen : ∀ lvl' : Int, (ind ≠ none → lvl' = ((deep + 1 : Nat) : Int)) → ∀ q ∈ t.pt i, 0 ≤ q → GenOk B T e t (8 * f) (way ++ [i]) lvl' (told t ind f q.toNat (deep + 1) (way ++ [i])) q.toNat := fun lvl' hl' q hq hq0 =>
      ih (deep + 1) (way ++ [i]) lvl' hnd' hways' (by simp; omega) (by simp; omega) hl' q.toNat (by have := (hlow q hq).2; omega)
    refine ⟨fun hd L k => ?_, fun hd L k => ?_⟩
    · rw [told_list hp hw hd]
      cases ind with
      | none => exact li_go_none (deep := deep) W eo hi hd hp hlen hlow hw hwl hways to.inj (gen lvl fun h => absurd rfl h)
      | some s =>
        rw [hlvl (by simp)]
        exact li_go_some W eo hi hd hp hlen hlow hw hwl hways to.inj (by omega) (gen _ fun _ => rfl)
    · rw [told_dict hp hw hd]
      cases ind with
      | none => exact di_go_none (deep := deep) W eo hi hd hp hlen hsm hlow hw hwl hways to.inj (gen lvl fun h => absurd rfl h)
      | some s =>
        rw [hlvl (by simp)]
        exact di_go_some W eo hi hd hp hlen hsm hlow hw hwl hways to.inj (by omega) (gen _ fun _ => rfl)
end
end

-- D8
section
theorem g_strs (w : World) : nsIn (KF w) mainGlobals (Str.ofString "string_types") = some (some (.type "str")) := by kernel_rfl
theorem g_ints (w : World) : nsIn (KF w) mainGlobals (Str.ofString "integer_types") = some (some (.type "int")) := by kernel_rfl
local macro_rules | `(tactic| walk_at "gl") => `(tactic| with_reducible first | exact g_is_open' _ | exact g_RawJSON _ | exact g_strs _ | exact g_ints _)
local macro_rules | `(tactic| walk_at "bl") => `(tactic| with_reducible first | exact b_VE | exact b_isinstance | exact b_strT | exact b_bool | exact b_int | exact b_list | exact b_tuple | exact b_dict)
section
variable {B : Bx} {A : Around} {Ψ : Value → SH → Prop} {σ τ S R T : SH} {e : EC} {t : Th} {ind : Option Str}
@[reducible] def itVs (a : Value) (k : Tok) (u : Option Value) : List (Option Value) := [some a, some (.int 0 k), u]
theorem root_emits {i : Nat} {L : Addr} {k : Tok} (W : Wk e t B.w T) (eo : EOk e ind) (to : t.Ok) (hsz : t.sz ≤ 3) (hi : i < t.sz) :
    Emits B I73 T 40 (told t ind 4 i 0 []).2 [] (told t ind 4 i 0 []).1 (.func (fnBody (mkSt 4)) (envF (e.fd 4) L (e.fn 4))) (denote table (.func (fnBody (mkSt 4)) (envF (e.fd 4) L (e.fn 4)))) []
      [.o L (frameP itKs (itVs (.ref (t.ad i)) k none)), .o e.m (listP (refs t []))] := by
  have gen := gen_ok W eo to hsz 4 0 [] 0 List.nodup_nil (fun j hj => nomatch hj) rfl rfl (fun _ => rfl) i hi
  generalize told t ind 4 i 0 [] = r at gen ⊢
  refine Emits.start (Emits.c2 fun A l R S hA hT hI => ?_)
  have E := EC.envOk (e := e) it_b L (e.fn 4)
  have W' := W.mono hT
  have gr := W'.gr
  have hth := W'.th i hi
  have hh' : (A.deeper (envF (e.fd 4) L (e.fn 4))).handled = none := hA.hand
  have hr' : Roomy (A.deeper (envF (e.fd 4) L (e.fn 4))) 0 := ⟨by have := hA.room.depth; show A.depth + 1 + 0 ≤ 600; omega, by have := hA.room.units; show A.units + 3 + 0 ≤ 8000; omega⟩
  have hr1 : Roomy (A.deeper (envF (e.fd 4) L (e.fn 4))) 1 := ⟨by have := hA.room.depth; show A.depth + 1 + 1 ≤ 600; omega, by have := hA.room.units; show A.units + 3 + 20 ≤ 8000; omega⟩
  cases hd : t.isD i with
  | false =>
    simp only [Th.word, hd, Bool.false_eq_true, if_false] at hth
    refine Sg.cons (Sg.If ?_)
    rw [over_func]
    walk_at "py"
    refine ⟨trivial, isi_list_str (vs := (t.pt i).map t.pv) (by walk_at "mem") _ _ _ hh' hr'.d hr'.u ?_⟩
    walk_at "py"
    refine Sg.cons (Sg.If ?_)
    rw [over_func]
    walk_at "py"
    refine ⟨trivial, isi_list_raw (vs := (t.pt i).map t.pv) (by walk_at "mem") _ _ _ hh' hr'.d hr'.u ?_⟩
    walk_at "py"
    refine Sg.cons (Sg.If ?_)
    rw [over_func]
    walk_at "py"
    refine Sw.is_plain rfl ?_
    walk_at "py"
    rw [show (Value.ref (t.ad i) == Value.none) = false from rfl]
    refine ite_neg Bool.false_ne_true ?_
    refine Sg.cons (Sg.If ?_)
    rw [over_func]
    walk_at "py"
    refine ⟨trivial, isi_list_bool (vs := (t.pt i).map t.pv) (by walk_at "mem") _ _ _ hh' hr'.d hr'.u ?_⟩
    walk_at "py"
    refine Sg.cons (Sg.If ?_)
    rw [over_func]
    walk_at "py"
    refine ⟨trivial, isi_list_int (vs := (t.pt i).map t.pv) (by walk_at "mem") _ _ _ hh' hr'.d hr'.u ?_⟩
    walk_at "py"
    refine Sg.cons (Sg.If ?_)
    rw [over_func]
    walk_at "py"
    refine ⟨trivial, isi_list_list (vs := (t.pt i).map t.pv) (by walk_at "mem") _ _ _ hh' hr'.d hr'.u ?_⟩
    walk_at "py"
    refine Sg.cons (Sg.For ?_)
    rw [over_func]
    walk_at "py"
    refine ⟨EC.callee (gr.mono fun c hc => by walk_at "mem") (by decide), ?_⟩
    refine' Sw.callG2 (EC.here (gr.mono fun c hc => by walk_at "mem") (by decide)) (li_ok e) hr1 ?iv ?_
    case iv => walk_at "iv"
    intro L' gn q
    refine Sw.iter_gen (by walk_at "mem") ?_
    intro p2
    refine Sg.subp (List.append_nil r.1 ▸ (Sg.delegate (x := Str.ofString "chunk") (ks := itKs) (fs' := mkFs 4) (n := 40) (n1 := 32) (fin1 := [.o e.m (listP (refs t []))]) (σx := []) (ring1 := r.2) (ps2 := []) (m := gn) (q := q) (fin := [])
      (vf := fun u => itVs (.ref (t.ad i)) k u)
      (σi := [.o L' (frameP liKs (liVs (.ref (t.ad i)) 0 k)), .o e.m (listP (refs t []))]) (u := none)
      (fun A => over_func A) rfl rfl E rfl (fun u v => NPut.tail (.tail .head)) (fun v => NAt.tail (.tail .head)) (by omega) rfl rfl ?_ ?_ r.1 (.fresh (.func (fnBody (mkSt 1)) (envF (e.fd 1) L' (e.fn 1)))) ?_ A l R S p2 hA hT hI)) (by refine Subp.of_cnt fun cc0 => ?_; simp only [cnt_append, cnt_cons, cnt_nil, liVs, itVs]; omega)
    · intro hr u A l R S hA hT hI
      rw [hr]
      refine Sg.nil (Sg.nil (Sg.nil (Sg.nil (Sg.nil (Sg.nil (Sg.nil ?_))))))
      exact Sg.end_ (r := .ok (.ret .none)) ⟨S, hI, _, rfl, rfl, by walk_at "subp"⟩
    · intro hr
      rw [hr]
      refine ⟨rfl, fun u ex T' A l R S hA hT hI => ?_⟩
      refine Sg.funHeld rfl ?_
      exact ⟨S, hI, ex, T', rfl, by walk_at "subp"⟩
    · exact ⟨_, _, _, .inl ⟨rfl, rfl, rfl⟩, gen.li hd L' k⟩
  | true =>
    simp only [Th.word, hd, if_true] at hth
    refine Sg.cons (Sg.If ?_)
    rw [over_func]
    walk_at "py"
    refine ⟨trivial, isi_dict_str (kvs := t.kv i) (by walk_at "mem") _ _ _ hh' hr'.d hr'.u ?_⟩
    walk_at "py"
    refine Sg.cons (Sg.If ?_)
    rw [over_func]
    walk_at "py"
    refine ⟨trivial, isi_dict_raw (kvs := t.kv i) (by walk_at "mem") _ _ _ hh' hr'.d hr'.u ?_⟩
    walk_at "py"
    refine Sg.cons (Sg.If ?_)
    rw [over_func]
    walk_at "py"
    refine Sw.is_plain rfl ?_
    walk_at "py"
    rw [show (Value.ref (t.ad i) == Value.none) = false from rfl]
    refine ite_neg Bool.false_ne_true ?_
    refine Sg.cons (Sg.If ?_)
    rw [over_func]
    walk_at "py"
    refine ⟨trivial, isi_dict_bool (kvs := t.kv i) (by walk_at "mem") _ _ _ hh' hr'.d hr'.u ?_⟩
    walk_at "py"
    refine Sg.cons (Sg.If ?_)
    rw [over_func]
    walk_at "py"
    refine ⟨trivial, isi_dict_int (kvs := t.kv i) (by walk_at "mem") _ _ _ hh' hr'.d hr'.u ?_⟩
    walk_at "py"
    refine Sg.cons (Sg.If ?_)
    rw [over_func]
    walk_at "py"
    refine ⟨trivial, isi_dict_list (kvs := t.kv i) (by walk_at "mem") _ _ _ hh' hr'.d hr'.u ?_⟩
    walk_at "py"
    refine Sg.cons (Sg.If ?_)
    rw [over_func]
    walk_at "py"
    refine ⟨trivial, isi_dict_tuple (kvs := t.kv i) (by walk_at "mem") _ _ _ hh' hr'.d hr'.u ?_⟩
    walk_at "py"
    refine Sg.cons (Sg.If ?_)
    rw [over_func]
    walk_at "py"
    refine ⟨trivial, isi_dict_dict (kvs := t.kv i) (by walk_at "mem") _ _ _ hh' hr'.d hr'.u ?_⟩
    walk_at "py"
    refine Sg.cons (Sg.For ?_)
    rw [over_func]
    walk_at "py"
    refine ⟨EC.callee (gr.mono fun c hc => by walk_at "mem") (by decide), ?_⟩
    refine' Sw.callG2 (EC.here (gr.mono fun c hc => by walk_at "mem") (by decide)) (di_ok e) hr1 ?iv ?_
    case iv => walk_at "iv"
    intro L' gn q
    refine Sw.iter_gen (by walk_at "mem") ?_
    intro p2
    refine Sg.subp (List.append_nil r.1 ▸ (Sg.delegate (x := Str.ofString "chunk") (ks := itKs) (fs' := mkFs 4) (n := 40) (n1 := 32) (fin1 := [.o e.m (listP (refs t []))]) (σx := []) (ring1 := r.2) (ps2 := []) (m := gn) (q := q) (fin := [])
      (vf := fun u => itVs (.ref (t.ad i)) k u)
      (σi := [.o L' (frameP diKs (diVs (.ref (t.ad i)) 0 k)), .o e.m (listP (refs t []))]) (u := none)
      (fun A => over_func A) rfl rfl E rfl (fun u v => NPut.tail (.tail .head)) (fun v => NAt.tail (.tail .head)) (by omega) rfl rfl ?_ ?_ r.1 (.fresh (.func (fnBody (mkSt 3)) (envF (e.fd 3) L' (e.fn 3)))) ?_ A l R S p2 hA hT hI)) (by refine Subp.of_cnt fun cc0 => ?_; simp only [cnt_append, cnt_cons, cnt_nil, diVs, itVs]; omega)
    · intro hr u A l R S hA hT hI
      rw [hr]
      refine Sg.nil (Sg.nil (Sg.nil (Sg.nil (Sg.nil (Sg.nil (Sg.nil (Sg.nil (Sg.nil ?_))))))))
      exact Sg.end_ (r := .ok (.ret .none)) ⟨S, hI, _, rfl, rfl, by walk_at "subp"⟩
    · intro hr
      rw [hr]
      refine ⟨rfl, fun u ex T' A l R S hA hT hI => ?_⟩
      refine Sg.funHeld rfl ?_
      exact ⟨S, hI, ex, T', rfl, by walk_at "subp"⟩
    · exact ⟨_, _, _, .inl ⟨rfl, rfl, rfl⟩, gen.di hd L' k⟩
end
end

-- H1
section
def cellN (names : List (Str × NameKind)) : List Str := (names.filter fun x => x.2 == .cell).map (·.1)
def cellsC (cs : List Addr) : SH := cs.map fun c => .o c (cellP none)
abbrev envC (fd : FuncData) (L a : Addr) (cs : List Addr) : Env :=
  { scope := fd.scope, locals := L, globals := fd.globals, cells := (cellN fd.scope.names).reverse.zip cs, qual := fd.qualname ++ ".<locals>.", func := some a, code := fd.code, frame := some L, builtins := fd.builtins }
def bindsLoop (env : Env) (bs : List (Str × Value)) : Sem Unit := forIn bs PUnit.unit fun p _ => do storeName env p.1 p.2; Pure.pure (ForInStep.yield PUnit.unit)
section
variable {B : Bx} {A : Around} {Ψ : Value → SH → Prop} {σ τ S R T : SH} {env : Env}
theorem FV.empty : ∀ ks : List Str, FV #[] ks (ks.map fun _ => none)
  | [] => trivial
  | _ :: ks => ⟨rfl, FV.empty ks⟩
theorem Sw.bindsNil {Φ : Unit → SH → Prop} (x : Φ () σ) : Sw B A (bindsLoop env []) Φ Ψ σ := by
  unfold bindsLoop
  rw [List.forIn_nil]
  exact Sw.pure x
theorem Sw.bindsCons {n : Str} {v : Value} {bs : List (Str × Value)} {Φ : Unit → SH → Prop} (x : Sw B A (storeName env n v) (fun _ τ => Sw B A (bindsLoop env bs) Φ Ψ τ) Ψ σ) : Sw B A (bindsLoop env ((n, v) :: bs)) Φ Ψ σ := by
  unfold bindsLoop
  rw [List.forIn_cons]
  refine Sw.bind (Sw.bind (x.mono (fun _ τ q => Sw.pure ?_) fun _ _ q => q))
  exact q
theorem Sw.cellsLoop {c : Cl} {Φ : List (Str × Addr) → SH → Prop} {f : Str × NameKind → List (Str × Addr) → Sem (ForInStep (List (Str × Addr)))}
    (hf : ∀ p acc, f p acc = if p.2 == .cell then (alloc { cls := .type "cell", data := .cell none } >>= fun a => Pure.pure (ForInStep.yield ((p.1, a) :: acc))) else Pure.pure (ForInStep.yield acc)) :
    ∀ (names : List (Str × NameKind)) (fs0 : List Str) (cs0 : List Addr), fs0.length = cs0.length →
    (∀ cs, cs.length = ((cellN names).reverse ++ fs0).length → Φ (((cellN names).reverse ++ fs0).zip cs) (c :: (cellsC cs ++ σ))) → Sw B A (forIn names (fs0.zip cs0) f) Φ Ψ (c :: (cellsC cs0 ++ σ))
  | [], fs0, cs0, hl, x => by
    rw [List.forIn_nil]
    exact Sw.pure (x cs0 hl.symm)
  | (n, k) :: names, fs0, cs0, hl, x => by
    rw [List.forIn_cons, hf]
    by_cases hk : (k == .cell) = true
    · rw [if_pos hk]
      refine Sw.bind (Sw.bind ?_)
      intro h g d tk O
      refine wpAny_alloc ?_
      refine .mk (O.push2 rfl (P := cellP none) rfl) ?_
      refine Sw.pure ?_
      have z := Sw.cellsLoop hf names (n :: fs0) (h.objs.size :: cs0) (by simp [hl]) (fun cs hcs => by
        have e1 : (cellN ((n, k) :: names)).reverse ++ fs0 = (cellN names).reverse ++ (n :: fs0) := by simp [cellN, hk]
        have e2 := x cs (by rw [e1]; exact hcs)
        rw [e1] at e2; exact e2)
      exact z
    · rw [if_neg hk]
      refine Sw.bind (Sw.pure ?_)
      have e1 : cellN ((n, k) :: names) = cellN names := by simp [cellN, hk]
      rw [e1] at x
      exact Sw.cellsLoop hf names fs0 cs0 hl x
-- what is asked of a def with cells
structure FnOkC (fd : FuncData) (body : List Stmt) (gen : Bool) : Prop where
  co : fd.scope.isCoroutine = false
  gen : fd.scope.isGenerator = gen
  body : fd.body = .stmts body
  clos : fd.closure = []
theorem Sw.callC {fd : FuncData} {body : List Stmt} {ks : List Str} {as : List Value} {bs : List (Str × Value)} {a : Addr} {Q : Result → SH → Prop} (H : FnHere B a fd σ) (F : FnOkC fd body false) (hroom : Roomy A 1) (hb : bindArgs fd ⟨as, []⟩ = Pure.pure bs)
    (x : ∀ L cs, cs.length = (cellN fd.scope.names).reverse.length → Sw B A.in1 (bindsLoop (envC fd L a cs) bs) (fun _ τ => Sw B (A.deeper (envC fd L a cs)) (execs body (envC fd L a cs)) (fun f τ => ∃ τ', τ'.Sublist τ ∧ Q (.ok (.ret (retV f))) τ') NoE τ) NoE (.o L (frameP ks (ks.map fun _ => none)) :: (cellsC cs ++ σ))) : Sc B A (.call (.ref a) ⟨as, []⟩) Q σ := fun h g d k O => by
  obtain ⟨⟨o, ho, hd⟩, hcd⟩ := H h g O
  refine codeAny_call_function hroom.lt ho hd F.co F.gen F.body hcd ?_
  rw [hb]
  refine wpAny_pure ?_
  unfold newFunctionEnv
  rw [F.clos]
  refine wpAny_bind (wpAny_alloc ?_)
  have O1 := O.push (o := { cls := .type "frame", data := .dict #[] }) rfl (P := frameP ks (ks.map fun _ => none)) ⟨#[], _, rfl, fun e he => by simp at he, FV.empty ks⟩
  refine wpAny_bind ?_
  refine wpAny_mono (Sw.cellsLoop (B := B) (A := A.in1) (Ψ := NoE) (σ := σ) (c := .o h.objs.size (frameP ks (ks.map fun _ => none)))
    (Φ := fun cells τ => ∃ cs, cs.length = (cellN fd.scope.names).reverse.length ∧ cells = (cellN fd.scope.names).reverse.zip cs ∧ τ = .o h.objs.size (frameP ks (ks.map fun _ => none)) :: (cellsC cs ++ σ)) (f := _) (fun p acc => ?_) fd.scope.names [] [] rfl (fun cs hcs => ⟨cs, by simpa using hcs, by simp, rfl⟩) _ g d k O1) (fun cells s q => ?_) fun _ _ q => q.none
  · obtain ⟨n, kk⟩ := p
    cases kk <;> rfl
  · obtain ⟨τ, O2, e, cs, hcs, rfl, rfl⟩ := q
    obtain ⟨h2, g2, d2, k2, os2⟩ := s
    cases e
    dsimp only
    refine wpAny_bind (wpAny_mono (x h.objs.size cs hcs h2 g2 d2 k2 O2) (fun _ s q => ?_) fun _ _ q => q.none)
    obtain ⟨τ, O3, e, q⟩ := q
    obtain ⟨h3, g3, d3, k3, os3⟩ := s
    cases e
    refine wpAny_pure ⟨O3.noLimit, codeAny_func ?_⟩
    refine wpAny_mono (q h3 g3 d3 k3 O3) (fun f s q => ?_) fun _ _ q => q.none
    obtain ⟨τ, O4, e, τ', hs, q⟩ := q
    exact ⟨τ', O4.sublist hs, e, q⟩
-- which names are cells
def CellOk (env : Env) (fs : List Str) : Prop := ∀ x ∈ fs, env.scope.names.lookup x = some .cell
theorem Sw.stC {fs ks : List Str} {x : Str} {v : Value} {cs : List Addr} {c : Addr} {u : Option Value} {Φ : Unit → SH → Prop} (E : EnvOk env ks fs) (hk : CellOk env fs) (hc : env.cells = fs.zip cs) (a : CAt x c fs cs) (m : Upd c (cellP u) (cellP (some v)) σ τ) (y : Φ () τ) : Sw B A (storeName env x v) Φ Ψ σ :=
  Sw.stc E (hk x a.mem) hc a m y
-- which names are global or the machine's own
structure GlbOk (env : Env) (gs : List Str) : Prop where
  kind : env.scope.kind = .function
  glob : env.globals = mainGlobals
  bi : env.builtins = builtinsNs
  all : ∀ x ∈ gs, env.scope.names.lookup x = some .globalImplicit ∧ (x == ("__debug__" : Str)) = false
theorem Sw.ldgE {gs : List Str} {x : Str} {v : Value} {pos : Pos} {Φ : Value → SH → Prop} (E : GlbOk env gs) (hx : x ∈ gs) (e : nsIn (KF B.w) mainGlobals x = some (some v)) (y : Φ v σ) : Sw B A (eval (.Name x pos) env) Φ Ψ σ :=
  Sw.ldg e E.kind (E.all x hx).1 E.glob (E.all x hx).2 y
theorem Sw.ldbE {gs : List Str} {x : Str} {v : Value} {pos : Pos} {Φ : Value → SH → Prop} (E : GlbOk env gs) (hx : x ∈ gs) (hv : bootBuiltins x = some v) (e : nsIn (KF B.w) mainGlobals x = some none) (hn : x ≠ "__name__") (y : Φ v σ) : Sw B A (eval (.Name x pos) env) Φ Ψ σ :=
  Sw.ldb e hv hn E.kind (E.all x hx).1 E.glob E.bi (E.all x hx).2 y
end
end

end

section
local macro_rules | `(tactic| walk_at "mem") => `(tactic| with_reducible first | assumption | exact List.mem_cons_self | (refine' List.mem_append_right _ ?a; (case a => walk_at "mem")) | (refine' List.mem_append_left _ ?a; (case a => walk_at "mem")) | (refine' List.mem_cons_of_mem _ ?a; (case a => walk_at "mem")))
local macro_rules | `(tactic| walk_at "upd") => `(tactic| with_reducible first | exact Upd.head | (refine' Upd.tail ?a; (case a => walk_at "upd")))
local macro_rules | `(tactic| walk_at "del") => `(tactic| with_reducible first | exact Del.head | (refine' Del.tail ?a; (case a => walk_at "del")))
local macro_rules | `(tactic| walk_at "nat") => `(tactic| with_reducible first | exact NAt.head | (refine' NAt.tail ?a; (case a => walk_at "nat")))
local macro_rules | `(tactic| walk_at "nput") => `(tactic| with_reducible first | exact NPut.head | (refine' NPut.tail ?a; (case a => walk_at "nput")))
local macro_rules | `(tactic| walk_at "iv") => `(tactic| with_reducible first | exact IV.nil | (refine' IV.arg ?a; (case a => walk_at "iv")) | (refine' IV.rest ?a; (case a => walk_at "iv")))
local macro_rules | `(tactic| walk_at "sub") => `(tactic| with_reducible first | exact List.Sublist.refl _ | (refine' List.Sublist.cons _ ?a; (case a => walk_at "sub")) | (refine' List.Sublist.cons_cons _ ?a; (case a => walk_at "sub")))
local macro_rules | `(tactic| walk_at "cat") => `(tactic| with_reducible first | exact CAt.head | (refine' CAt.tail ?a; (case a => walk_at "cat")))
local macro_rules | `(tactic| walk_at "subp") => `(tactic| (refine Subp.of_cnt fun _ => ?_; simp only [cnt_append, cnt_cons, cnt_nil]; omega))
local macro_rules | `(tactic| walk_at "py1") => `(tactic| with_reducible first
  | refine Sw.execs_nil ?_
  | refine Sw.execs_cons ?_
  | refine ite_pos (c := true = true) rfl ?_
  | refine ite_neg (c := false = true) Bool.false_ne_true ?_
  | refine Sw.s_Assign_Name ?_
  | refine Sw.s_AugAssign_Name ?_
  | refine Sw.s_If ?_
  | refine Sw.s_Return ?_
  | refine Sw.s_Return0 ?_
  | refine Sw.s_Pass ?_
  | (refine' Sw.ldG ?e ?g ?r ?x ?v ?_; (case e => assumption); (case g => assumption); (case x => decide); (case v => walk_at "mem"); (case r => (intro _ _; walk_at "mem")))
  | refine Args.cons ?_
  | refine Args.nil ?_
  | refine callee_ok rfl ?_
  | refine Sw.s_Try ?_
  | refine Sw.e_Or ?_
  | refine Sw.e_And ?_
  | refine Sw.e_Bool1 ?_
  | refine Sw.isTrue_or ?_
  | refine Sw.isTrue_and ?_
  | refine Sw.isTrue_and0 ?_
  | refine Sw.isTrue_or0 ?_
  | refine Sw.e_IfExp ?_
  | refine Sw.e_Subscript ?_
  | refine Sw.e_Call_Name ?_
  | refine Sw.s_Expr ?_
  | refine Sw.s_For ?_
  | refine Sw.s_While ?_
  | (refine Sw.e_Const_int ?_; intro _)
  | (refine Sw.e_Const_str ?_; intro _)
  | refine Sw.e_Const_none ?_
  | refine Sw.e_Const_bool ?_
  | refine Sw.e_BinOp ?_
  | refine Sw.e_Compare ?_
  | refine Sw.e_UnaryOp ?_
  | refine Sw.isTrue_Compare ?_
  | refine Sw.isTrue_not ?_
  | refine Sw.isTrue_Name ?_
  | refine Sw.isTrue_Call ?_
  | refine Sw.isTrue_Attribute ?_
  | refine Sw.isTrue_Subscript ?_
  | refine Sw.truthy_bool ?_
  | refine Sw.assign_Name ?_
  | (refine' Sw.ld ?e ?a ?_; (case e => assumption); (case a => walk_at "nat"))
  | (refine' Sw.ldn ?e ?a ?_; (case e => assumption); (case a => walk_at "nat"))
  | (refine' Sw.st ?e ?p ?_; (case e => assumption); (case p => walk_at "nput"))
  | (refine' Sw.ldgE ?e ?x ?k ?_; (case e => assumption); (case k => walk_at "gl"); (case x => walk_at "mem"))
  | (refine' Sw.ldbE ?e ?x ?v ?k ?n ?_; (case e => assumption); (case v => walk_at "bl"); (case x => walk_at "mem"); (case k => kernel_rfl); (case n => decide))
  | (refine' Sw.ldc ?e ?h ?a ?m ?_; (case e => assumption); (case h => assumption); (case a => walk_at "cat"); (case m => walk_at "mem"))
  | (refine' Sw.stC ?e ?k ?h ?a ?u ?_; (case e => assumption); (case k => assumption); (case h => assumption); (case a => walk_at "cat"); (case u => walk_at "upd"))
  | (refine' Sw.ldg ?e ?k ?x ?g ?d ?_; (case e => walk_at "gl"); (case k => kernel_rfl); (case x => kernel_rfl); (case g => kernel_rfl); (case d => decide))
  | (refine' Sw.ldb ?e ?v ?n ?k ?x ?g ?b ?d ?_; (case v => walk_at "bl"); (case e => kernel_rfl); (case n => decide); (case k => kernel_rfl); (case x => kernel_rfl); (case g => kernel_rfl); (case b => kernel_rfl); (case d => decide)))
local macro_rules | `(tactic| walk_at "py") => `(tactic| repeat (first | walk_at "py1" | (dsimp only; walk_at "py1")))

-- H2
section
@[reducible] def instO (C d : Addr) : Obj := { cls := .ref C, dict := some d }
-- a name that isn't there
inductive NNo (x : Str) : List Str → List (Option Value) → Prop
  | head {ks vs} : NNo x (x :: ks) (none :: vs)
  | tail {k ks u vs} : NNo x ks vs → NNo x (k :: ks) (u :: vs)
theorem NNo.find {x : Str} {es : Array DictEntry} : ∀ {ks vs}, NNo x ks vs → FV es ks vs → nsFind es x = none
  | _, _, .head, f => f.1
  | _, _, .tail a, f => a.find f.2
theorem lookIn_of {name : Str} {o : Obj} {es : Array DictEntry} {ep : Nat} (hd : o.data = .dict es ep) (hk : StrKeys es) : lookIn name o = some (nsFind es name) := by
  obtain ⟨es⟩ := es
  have hr : es.any (·.refKey) = false := by
    rw [List.any_eq_false]
    intro e he
    obtain ⟨n, t, h⟩ := hk e (by simpa using he)
    simp [DictEntry.refKey, h]
  unfold lookIn nsFind findBy
  rw [hd]
  dsimp only
  have e2 : (Array.find? (fun e => e.key.isStr name) ⟨es⟩) = es.find? fun e => e.key.isStr name := by simp
  cases h : es.find? fun e => e.key.isStr name with
  | some e => simp [h]
  | none => simp [h, hr]
section
variable {B : Bx} {A : Around} {Ψ : Value → SH → Prop} {σ τ S R T : SH} {env : Env} {Φ : Value → SH → Prop} {x dx C : Addr} {ks : List Str} {vs vs' : List (Option Value)} {name : Str} {v : Value} {h : Heap} {g : Array GenState}
theorem instAt (O : Own B.w B.G h g σ) (mx : Cl.o x (eqP (instO C dx)) ∈ σ) (md : Cl.o dx (frameP ks vs) ∈ σ) : ∃ od es ep, InstAt h x (instO C dx) C (some od) ∧ h.get? dx = some od ∧ od.data = .dict es ep ∧ StrKeys es ∧ FV es ks vs := by
  obtain ⟨ox, hx, rfl⟩ := O.get mx
  obtain ⟨od, hd, es, ep, h1, h2, h3⟩ := O.get md
  exact ⟨od, es, ep, ⟨hx, rfl, rfl, hd⟩, hd, h1, h2, h3⟩
theorem Sw.getattr_own {e : Bool} {attr : Option Value} (mx : Cl.o x (eqP (instO C dx)) ∈ σ) (md : Cl.o dx (frameP ks vs) ∈ σ) (hg : plainGet (KF B.w) C name = true) (hh : hasDictIn (KF B.w) C = true) (ha : findIn (KF B.w) (.ref C) name = some attr) (hn : noGet (KF B.w) attr = true)
    (a : NAt name v ks vs) (hv : handedIn v = true) (y : Φ v σ) : Sw B A (getAttr (.ref x) name e) Φ Ψ σ := fun h g d tk O => by
  obtain ⟨od, es, ep, I, h0, h1, h2, h3⟩ := instAt O mx md
  exact get_value (x_kin O) I (plainGet_of hg).1 (findObj_own hh ha hn (by rw [lookIn_of h1 h2, a.find h3])) hv (.mk O y)
theorem Sw.getattr_cls {e : Bool} (mx : Cl.o x (eqP (instO C dx)) ∈ σ) (md : Cl.o dx (frameP ks vs) ∈ σ) (hg : plainGet (KF B.w) C name = true) (hh : hasDictIn (KF B.w) C = true) (ha : findIn (KF B.w) (.ref C) name = some (some v)) (hn : specialIn (KF B.w) v "__get__" = some none) (hv : handedIn v = true) (hc : copiedNames.contains name = false)
    (a : NNo name ks vs) (y : Φ v σ) : Sw B A (getAttr (.ref x) name e) Φ Ψ σ := fun h g d tk O => by
  obtain ⟨od, es, ep, I, h0, h1, h2, h3⟩ := instAt O mx md
  exact get_value (x_kin O) I (plainGet_of hg).1 (findObj_cls hh ha hn hv hc (by rw [lookIn_of h1 h2, a.find h3])) hv (.mk O y)
theorem Sw.e_AttrName {xn attr : Str} {xp pos : Pos} (y : Sw B A (eval (.Name xn xp) env) (fun o τ => Sw B A (getAttr o attr true) Φ Ψ τ) Ψ σ)
    (he : eval (.Attribute (.Name xn xp) attr pos) env = (do
      let o ← eval (.Name xn xp) env
      PySem.standAt pos.atName
      let r ← PySem.holding [o] (getAttr o attr true)
      letTemporaryGo (.Name xn xp) o r
      Pure.pure r) := by with_unfolding_all rfl) : Sw B A (eval (.Attribute (.Name xn xp) attr pos) env) Φ Ψ σ := fun h g d k O =>
  Attribute_Name_ (wpAny_mono (y h g d k O) (fun _ _ q => q.bind) fun _ _ q => q) he
-- a method of an own class
theorem Sw.getMethod_inst {pl : Sem Bool} {f : Addr} {Φ : Value × List Value → SH → Prop} (mx : Cl.o x (eqP (instO C dx)) ∈ σ) (md : Cl.o dx (frameP ks vs) ∈ σ) (hg : plainGet (KF B.w) C name = true)
    (hf : findIn (KF B.w) (.ref C) name = some (some (.ref f))) (ht : typeIn (KF B.w) (.ref f) = some (.type "function")) (a : NNo name ks vs) (y : Φ (.ref f, [.ref x]) σ) : Sw B A (getMethod (.ref x) name pl) Φ Ψ σ := fun h g d tk O => by
  obtain ⟨od, es, ep, I, h0, h1, h2, h3⟩ := instAt O mx md
  exact method_fn (x_kin O) I (plainGet_of hg).1 (plainGet_of hg).2 hf ht (by show (lookIn name od).map _ = _; rw [lookIn_of h1 h2, a.find h3]; rfl) (.mk O y)
theorem Sw.e_Call_Own {o : Expr} {apos pos : Pos} {args : List Expr}
    (y : Sw B A (eval o env) (fun ov τ => Sw B A (calleeOf true o env ov name) (fun p τ => calleeB p.1 = true ∧ (∀ T, p.1 = .type T → p.2 = []) ∧ Args B A Ψ env args (fun vs τ => Callee B p.1 τ ∧ Sw B A (call p.1 (p.2 ++ vs)) Φ Ψ τ) τ) Ψ τ) Ψ σ)
    (hbase : attributeBase o name env (eval o env) = eval o env := by with_unfolding_all rfl)
    (hfew : ((backTo pos (starEach args env)).all (fun x => !x.1) && (backToKw pos (keywordEach [] env)).all (fun x => x.1.isSome)
      && decide (args.length + ([] : List Keyword).length + (if ([] : List Keyword).isEmpty then 0 else 1) < 30)) = true := by with_unfolding_all rfl)
    (hline : (apos.endLine == pos.line) = true := by with_unfolding_all rfl) (hp : args.all plainE = true := by with_unfolding_all rfl) : Sw B A (eval (.Call (.Attribute o name apos) args [] pos) env) Φ Ψ σ := fun h g d k O => by
  rw [arm_eval_Call, hbase]
  refine wpAny_bind (wpAny_mono (y h g d k O) (fun ov s₁ h₁ => ?_) fun _ _ e => e)
  refine wpAny_bind (wpAny_standAt ?_)
  have hform : methodCallForm (args.length + ([] : List Keyword).length) (backTo pos (starEach args env)) (backToKw pos (keywordEach [] env)) = true := hfew
  have hpos : methodCallPos true o env apos pos = Pure.pure pos := by unfold methodCallPos; simp [hline]
  unfold methodCall
  rw [hform]
  obtain ⟨τ, O1, e1, q⟩ := h₁
  obtain ⟨h1, g1, d1, k1, os1⟩ := s₁
  cases e1
  have fin : ∀ (p : Value × List Value) (s : Shared), PA B (fun p τ => calleeB p.1 = true ∧ (∀ T, p.1 = .type T → p.2 = []) ∧ Args B A Ψ env args (fun vs τ => Callee B p.1 τ ∧ Sw B A (call p.1 (p.2 ++ vs)) Φ Ψ τ) τ) p s → wpAny B.M A (PySem.callWith pos p.1 p.2 (backTo pos (starEach args env)) []) (PA B Φ) (PA B Ψ) s := by
    intro p s q
    obtain ⟨τ, O2, e2, hb, hf, q⟩ := q
    obtain ⟨h2, g2, d2, k2, os2⟩ := s
    cases e2
    exact Sw.callWith hp hb hf q h2 g2 d2 k2 O2
  refine wpAny_bind (wpAny_holding (wpAny_mono (q h1 g1 d1 k1 O1) (fun p s q => ?_) fun _ _ q => q))
  exact wpAny_bind (wpAny_of_eq hpos (fin p s q))
end
end

-- H3
section
def dictS (n : Nat) (ks : List Str) (vs : List (Option Value)) (o : Obj) : Prop := ∃ es ep, o.data = .dict es ep ∧ StrKeys es ∧ FV es ks vs ∧ es.size ≤ n
theorem put_small {name : Str} {h : Int} {kt : Tok} {v : Value} {n : Nat} {ks : List Str} {vs vs' : List (Option Value)} {o : Obj} (p : NPut name v ks vs vs') (hn : ks.Nodup) (x : dictS n ks vs o) : dictS (n + 1) ks vs' (o.putName name h (.str name kt) v) ∧ (o.putName name h (.str name kt) v).isFreed = false := by
  obtain ⟨es, ep, hd, hk, hf, hz⟩ := x
  obtain ⟨c, d, dt, sl⟩ := o
  subst hd
  cases hi : es.findIdx? (·.key.isStr name) with
  | some i =>
    have e : Obj.putName name h (.str name kt) v ⟨c, d, .dict es ep, sl⟩ = ⟨c, d, .dict (es.modify i fun e => { e with val := v }) ep, sl⟩ := by simp only [Obj.putName_eq, Obj.putNameByArray, hi]
    rw [e]
    exact ⟨⟨_, _, rfl, hk.modify _ _, p.fv (fun x => findBy_modify (fun n v => v.isStr n) Value.isStr_inj es name x v i hi) hn hf, by simp; omega⟩, rfl⟩
  | none =>
    have e : Obj.putName name h (.str name kt) v ⟨c, d, .dict es ep, sl⟩ = ⟨c, d, .dict (es.push ⟨h, .str name kt, v⟩) (ep + 1), sl⟩ := by simp only [Obj.putName_eq, Obj.putNameByArray, hi]
    rw [e]
    exact ⟨⟨_, _, rfl, hk.push _ _ _ _, p.fv (fun x => findBy_push (fun n v => v.isStr n) es name x _ _ v (fun y => by
      show (name == y) = decide (y = name)
      by_cases h : y = name
      · subst h; simp
      · have : ¬ name = y := fun e => h e.symm
        simp [h, this]) hi) hn hf, by simp; omega⟩, rfl⟩
section
variable {B : Bx} {A : Around} {Ψ : Value → SH → Prop} {σ τ S R T : SH} {env : Env} {Φ : Value → SH → Prop} {x dx C : Addr} {ks : List Str} {vs vs' : List (Option Value)} {name : Str} {v : Value} {h : Heap} {g : Array GenState} {n : Nat}
theorem Sw.setattr {Φ : Unit → SH → Prop} (mx : Cl.o x (eqP (instO C dx)) ∈ σ) (u : Upd dx (dictS n ks vs) (dictS (n + 1) ks vs') σ τ) (hnd : ks.Nodup) (hn : n ≤ 100) (p : NPut name v ks vs vs')
    (hs : findIn (KF B.w) (.ref C) "__setattr__" = some (some (.builtin "object.__setattr__"))) (hp : plainOver (KF B.w) C = true) (ht : takerIn (KF B.w) C name = some none) (hh : hasDictIn (KF B.w) C = true)
    (y : Φ () τ) : Sw B A (setAttr (.ref x) name v) Φ Ψ σ := fun h g d tk O => by
  obtain ⟨ox, hx, rfl⟩ := O.get mx
  obtain ⟨od, hod, w0⟩ := O.get u.mem
  have w0' := w0
  obtain ⟨es, ep, h1, h2, h3, h4⟩ := w0
  have I : InstAt h x (instO C dx) C (some od) := ⟨hx, rfl, rfl, hod⟩
  refine set_plain (x_kin O) I hs ?_
  refine osa_open (s := ⟨h, g, d, tk + 1, B.os⟩) (x_kin O) I hp ht fun b => ?_
  obtain ⟨cd, hc, hd'⟩ := any_some hh
  have hany : es.any (·.refKey) = false := by
    rw [Array.any_eq_false']; intro e he; obtain ⟨n, t, h⟩ := h2 e he; simp [DictEntry.refKey, h]
  refine wpAny_bind (wpAny_pure (wpAny_bind (wpAny_bind (wpAny_loadPart hx (wpAny_bind ((looks_clsIn (x_kin O) hc).here ?_))))))
  rw [hd']
  refine wpAny_pure (a := some dx) (wpAny_bind (wpAny_pure (wpAny_bind ?_)))
  unfold nsSet
  refine wpAny_bind (wpAny_bind (wpAny_askSetting (wpAny_pure (wpAny_bind (wpAny_mkText (wpAny_bind (wpAny_loadPart hod ?_)))))))
  rw [h1]
  dsimp only
  rw [aRefKeyMayBeTheName_eq, aRefKeyMayBeTheNameByArray, hany, Bool.and_false]
  refine wpAny_updatePart hod ?_
  have O' := O.update u (f := Obj.putName name (PyData.keyHash B.w.params name) (.str name (tk + 1)) v) fun o ho => ⟨(put_small p hnd ho).2, (put_small p hnd ho).1⟩
  obtain ⟨o', ho', es', ep', k1, k2, k3, k4⟩ := O'.get u.mem'
  refine wpAny_bind (wpAny_lookBehind ho' (by rw [k1]; exact pastItsLine_dict (by rw [sizeLine_eq]; omega)) ?_)
  exact wpAny_pure (.mk O' y)
theorem Sw.s_Assign_Attr {o value : Expr} {attr : Str} {pos' pos : Pos} {Φ : Flow → SH → Prop}
    (y : Sw B A (eval value env) (fun v τ => Sw B A (eval o env) (fun ov τ => Sw B A (setAttr ov attr v) (fun _ => Φ .next) Ψ τ) Ψ τ) Ψ σ)
    (hs : swapsWith value (some (.Attribute o attr pos')) pos.line env = Pure.pure false := by rfl) : Sw B A (exec (.Assign [.Attribute o attr pos'] value pos) env) Φ Ψ σ := fun h g d k O =>
  plainObj_wpAny_Assign_Attribute (wpAny_mono (y h g d k O) (fun _ _ q => wpAny_mono q.bind (fun _ _ q => q.bind) fun _ _ q => q) fun _ _ q => q) hs
-- a new thing of an own class
theorem Sc.newInst {c : Cl} {fI : Addr} {rest : List Value} {kw : List (Str × Value)} {Q : Result → SH → Prop} (hnd : ks.Nodup) (hm : makesIn (KF B.w) C = true) (hi : findIn (KF B.w) (.ref C) "__init__" = some (some (.ref fI))) (hf : typeIn (KF B.w) (.ref fI) = some (.type "function"))
    (y : ∀ x dx, Sc B (A.under (.builtin "type.__call__" ⟨.ref C :: rest, kw⟩)) (.call (.ref fI) ⟨.ref x :: rest, kw⟩) (fun r τ => r = .ok (.ret .none) ∧ Q (.ok (.ret (.ref x))) τ) (c :: .o x (eqP (instO C dx)) :: .o dx (dictS 0 ks (ks.map fun _ => none)) :: σ)) :
    Sc B A (.call (.ref C) ⟨rest, kw⟩) Q (c :: σ) := fun h g d k O => by
  refine make_core (makes_of (x_kin O) hm) (looks_findIn (x_kin O) hi) (fun self => bind_fn (x_kin O) self hf) (.inl rfl) ?_
  have O1 := O.push2 (o := emptyDict) rfl (P := dictS 0 ks (ks.map fun _ => none)) ⟨#[], _, rfl, fun e he => by simp at he, FV.empty ks, Nat.le_refl _⟩
  have O2 := O1.push2 (o := instObj C h.objs.size) rfl (P := eqP (instO C h.objs.size)) rfl
  rw [Heap.size_push] at O2
  refine codeAny_mono (y _ _ _ g d k O2) fun r s q => ?_
  obtain ⟨τ, O3, e, rfl, q⟩ := q
  exact ⟨rfl, τ, O3, e, q⟩
end
end

-- H4
section
@[reducible] def initPs : List Str := ["self", "skipkeys", "ensure_ascii", "check_circular", "sort_keys", "indent", "separators", "default", "tuple_as_array", "bigint_as_string", "item_sort_key", "int_as_string_bitcount"]
def clsBody : Stmt → List Stmt
  | .ClassDef _ _ _ b _ _ _ _ _ _ _ => b
  | _ => []
def encM (i : Nat) : Stmt := ((clsBody (topStmt 11))[i]?).getD (.Pass default)
theorem init_b : okB (fnScope (encM 2)) initPs [] false = true := by decide +kernel
theorem init_c : noCellB (fnScope (encM 2)) = true := by decide +kernel
theorem init_s (w : World) : (fdK w 101).scope = fnScope (encM 2) := by kernel_rfl
theorem init_e (w : World) : (fdK w 101).body = .stmts (fnBody (encM 2)) := by kernel_rfl
noncomputable def dfl (w : World) : Obj := ((KF w).lookup 94).getD default
theorem dfl_e (w : World) : (KF w).lookup 94 = some (dfl w) := by kernel_rfl
def loadK {α : Type} : Sem α → Obj → Sem α
  | .load _ _ k => k
  | t => fun _ => t
def loadQ {α : Type} : Sem α → Option Value
  | .load _ q _ => q
  | _ => none
theorem init_bind1 (w : World) (x : Addr) (v : Value) : bindArgs (fdK w 101) ⟨[.ref x], [(Str.ofString "indent", v)]⟩ = .load 94 (loadQ (bindArgs (fdK w 101) ⟨[.ref x], [(Str.ofString "indent", v)]⟩)) (loadK (bindArgs (fdK w 101) ⟨[.ref x], [(Str.ofString "indent", v)]⟩)) := by kernel_rfl
theorem init_bind2 (w : World) (x : Addr) (v : Value) : loadK (bindArgs (fdK w 101) ⟨[.ref x], [(Str.ofString "indent", v)]⟩) (dfl w) = Sem.pure (initPs.zip [.ref x, .bool false, .bool true, .bool true, .bool false, v, .none, .none, .bool true, .bool false, .none, .none]) := by kernel_rfl
theorem init_bind {w : World} {s : Shared} (X : (KF w).In s.heap) (x : Addr) (v : Value) : BindsTo s (fdK w 101) ⟨[.ref x], [(Str.ofString "indent", v)]⟩ (initPs.zip [.ref x, .bool false, .bool true, .bool true, .bool false, v, .none, .none, .bool true, .bool false, .none, .none]) := fun M A E Q hq => by
  rw [init_bind1]
  exact wpAny_bind (m := loadPart 94 (loadQ (bindArgs (fdK w 101) ⟨[.ref x], [(Str.ofString "indent", v)]⟩))) (f := loadK (bindArgs (fdK w 101) ⟨[.ref x], [(Str.ofString "indent", v)]⟩)) (wpAny_loadPart (X _ _ (dfl_e w)) (by rw [init_bind2]; exact wpAny_pure hq))
end

-- H5
section
theorem g_strs' (w : World) : nsIn (KF w) mainGlobals (Str.ofString "string_types") = some (some (.type "str")) := by kernel_rfl
theorem enc_set (w : World) : findIn (KF w) (.ref 125) "__setattr__" = some (some (.builtin "object.__setattr__")) := by kernel_rfl
theorem enc_over (w : World) : plainOver (KF w) 125 = true := by kernel_rfl
theorem enc_hd (w : World) : hasDictIn (KF w) 125 = true := by kernel_rfl
theorem enc_pg (w : World) (n : Str) : plainGet (KF w) 125 n = true := by kernel_rfl
@[reducible] def jeKs : List Str := ["skipkeys", "ensure_ascii", "check_circular", "sort_keys", "tuple_as_array", "bigint_as_string", "item_sort_key", "int_as_string_bitcount", "indent", "item_separator", "own_default", "key_separator", "default", "iterencode", "to_text"]
@[reducible] def jeVs (v : Value) (sep : Option Value) : List (Option Value) := [some (.bool false), some (.bool true), some (.bool true), some (.bool false), some (.bool true), some (.bool false), some .none, some .none, some v, sep, some .none, none, none, none, none]
local macro_rules | `(tactic| walk_at "gl") => `(tactic| with_reducible first | exact g_strs' _)
local macro_rules | `(tactic| walk_at "bl") => `(tactic| with_reducible first | exact b_isinstance)
local macro_rules | `(tactic| walk_at "seta") => `(tactic| ((try dsimp only); (first | refine Sw.execs_cons (Sw.s_Assign_Attr ?_) | refine Sw.s_Assign_Attr ?_); walk_at "py"; (refine' Sw.setattr (C := 125) ?smx ?su ?snd ?sn ?sp ?ss ?sov ?st ?sh ?_; (case smx => walk_at "mem"); (case su => walk_at "upd"); (case snd => decide); (case sn => decide); (case sp => walk_at "nput"); (case ss => exact enc_set _); (case sov => exact enc_over _); (case st => kernel_rfl); (case sh => exact enc_hd _))))
section
variable {B : Bx} {A : Around} {Ψ : Value → SH → Prop} {σ τ S R T : SH} {env : Env} {Φ : Value → SH → Prop}
theorem init_ok (w : World) : FnOk { fdK w 101 with defaults := .none } (fnBody (encM 2)) initPs initPs false :=
  FnOk.of (init_s w) (init_e w) init_b init_c fun as h => by
    match as, h with
    | [a1, a2, a3, a4, a5, a6, a7, a8, a9, a10, a11, a12], _ => exact (by kernel_rfl : bindArgs { fdK w 101 with defaults := .none } ⟨[a1, a2, a3, a4, a5, a6, a7, a8, a9, a10, a11, a12], []⟩ = Pure.pure (initPs.zip [a1, a2, a3, a4, a5, a6, a7, a8, a9, a10, a11, a12]))
theorem Sc.callFK {fd : FuncData} {body : List Stmt} {ps ks : List Str} {as0 as : List Value} {kw : List (Str × Value)} {vs : List (Option Value)} {a : Addr} {Q : Result → SH → Prop} (H : FnHere B a fd σ) (F : FnOk { fd with defaults := .none } body ps ks false) (hroom : Roomy A 1) (iv : IV ps as ks vs)
    (hb : ∀ h g d k, Own B.w B.G h g σ → BindsTo ⟨h, g, d, k, B.os⟩ fd ⟨as0, kw⟩ (ps.zip as))
    (x : ∀ L, Sw B (A.deeper (envF fd L a)) (execs body (envF fd L a)) (fun f τ => ∃ τ' : SH, τ'.Sublist τ ∧ Q (.ok (.ret (retV f))) τ') NoE (.o L (frameP ks vs) :: σ))
    (hl : as.length = ps.length := by rfl) : Sc B A (.call (.ref a) ⟨as0, kw⟩) Q σ := fun h g d k O => by
  obtain ⟨⟨o, ho, hd⟩, hcd⟩ := H h g O
  refine codeAny_call_function hroom.lt ho hd F.co F.gen F.body hcd (hb h g d k O _ _ _ _ ?_)
  refine newEnv_own F hl iv O fun h' k' O' => ⟨O'.noLimit, codeAny_func ?_⟩
  refine wpAny_mono (x h.objs.size h' g d k' O') (fun f s q => ?_) fun _ _ q => q.none
  obtain ⟨τ, O, e, τ', hs, q⟩ := q
  exact ⟨τ', O.sublist hs, e, q⟩
theorem dictS_frame {n : Nat} {ks : List Str} {vs : List (Option Value)} {o : Obj} (x : dictS n ks vs o) : frameP ks vs o := let ⟨es, ep, a, b, c, _⟩ := x; ⟨es, ep, a, b, c⟩
-- what an indent may be
inductive IndOk : Value → Prop
  | n : IndOk .none
  | s {s : Str} {k : Tok} : IndOk (.str s k)
theorem mk_enc {c : Cl} {v : Value} {Q : Result → SH → Prop} (hv : IndOk v) (hh : A.handled = none) (hr : Roomy A 4) (y : ∀ x dx sep, (v = .none → sep = none) → ((∃ s k, v = .str s k) → ∃ t, sep = some (.str (Str.ofString ",") t)) → Q (.ok (.ret (.ref x))) (c :: .o x (eqP (instO 125 dx)) :: .o dx (frameP jeKs (jeVs v sep)) :: σ)) :
    Sc B A (.call (.ref 125) ⟨[], [(Str.ofString "indent", v)]⟩) Q (c :: σ) := by
  refine Sc.newInst (ks := jeKs) (fI := 101) (by decide) (by kernel_rfl) (by kernel_rfl) (by kernel_rfl) fun x dx => ?_
  rw [show (jeKs.map fun _ => (none : Option Value)) = [none, none, none, none, none, none, none, none, none, none, none, none, none, none, none] from rfl]
  have hr2 : Roomy (A.under (.builtin "type.__call__" ⟨[.ref 125], [(Str.ofString "indent", v)]⟩)) 2 := ⟨by have := hr.depth; show A.depth + 1 + 2 ≤ 600; omega, by have := hr.units; show A.units + 1 + 20 * 2 ≤ 8000; omega⟩
  have hh2 : ((A.under (.builtin "type.__call__" ⟨[.ref 125], [(Str.ofString "indent", v)]⟩)).deeper (envF (fdK B.w 101) 0 101)).handled = none := hh
  refine' Sc.callFK (fd := fdK B.w 101) (as := [.ref x, .bool false, .bool true, .bool true, .bool false, v, .none, .none, .bool true, .bool false, .none, .none]) (fn_here rfl rfl rfl rfl rfl rfl) (init_ok B.w) (hr2.le (by omega)) ?iv (fun h g d k O => init_bind (x_kin O) x v) ?_
  case iv => walk_at "iv"
  intro L
  have E : EnvOk (envF (fdK B.w 101) L 101) initPs [] := EnvOk.of (init_s B.w) init_b
  iterate 8 (walk_at "seta")
  dsimp only
  refine Sw.execs_cons (Sw.s_If ?_)
  walk_at "py"
  cases hv with
  | n =>
    refine Sw.isnot_plain rfl ?_
    walk_at "py"
    refine ite_neg (by decide) ?_
    walk_at "py"
    walk_at "seta"
    walk_at "py"
    refine Sw.isnot_plain rfl ?_
    walk_at "py"
    refine ite_neg (by decide) ?_
    walk_at "py"
    refine Sw.isnot_plain rfl ?_
    walk_at "py"
    refine ite_neg (by decide) ?_
    walk_at "py"
    walk_at "seta"
    dsimp only
    refine' Sw.weak (P' := frameP jeKs (jeVs .none none)) ?wu (fun o => dictS_frame) ?_
    case wu => walk_at "upd"
    walk_at "py"
    exact ⟨_, .cons _ (.refl _), rfl, y x dx none (fun _ => rfl) (fun h => by obtain ⟨s, k, h⟩ := h; cases h)⟩
  | s =>
    rename_i s ks
    refine Sw.isnot_plain rfl ?_
    walk_at "py"
    refine ite_pos (by rfl) ?_
    walk_at "py"
    refine ⟨trivial, isi_str_str _ _ _ hh2 (hr2.deeper (n := 1)).d (hr2.deeper (n := 1)).u ?_⟩
    walk_at "py"
    refine ite_neg (by decide) ?_
    walk_at "py"
    walk_at "seta"
    walk_at "py"
    refine Sw.isnot_plain rfl ?_
    walk_at "py"
    refine ite_neg (by decide) ?_
    walk_at "py"
    refine Sw.isnot_plain rfl ?_
    walk_at "py"
    refine ite_pos (by rfl) ?_
    walk_at "seta"
    walk_at "py"
    walk_at "seta"
    dsimp only
    refine' Sw.weak (P' := frameP jeKs (jeVs (.str s ks) _)) ?wu (fun o => dictS_frame) ?_
    case wu => walk_at "upd"
    walk_at "py"
    exact ⟨_, .cons _ (.refl _), rfl, y x dx _ (fun h => by cases h) (fun _ => ⟨_, rfl⟩)⟩
end
end

-- H6
section
def mkEnt (k : Nat) (c : Addr) : Array Value := #[rawInt (stPos (mkSt k)).line, rawInt (stPos (mkSt k)).col, .ref c]
structure TabOk (cd : Nat → Addr) (tb : Array Value) : Prop where
  tr : TriplesOk tb.toList
  hit : ∀ i, i < 5 → codeAmong (stPos (mkSt i)) tb.toList = some (.ref (cd i))
theorem tr_more {tb : Array Value} (h : TriplesOk tb.toList) (k : Nat) (c : Addr) : TriplesOk (tb ++ mkEnt k c).toList := by
  rw [Array.toList_append]
  exact TriplesOk_snoc _ _ _ _ h
@[reducible] def mkFs15 : List Str := ["_stringify_key", "_iterencode_list", "_iterencode_dict", "_iterencode", "_encode_int", "_item_sort_key", "_int_as_string_bitcount", "_tuple_as_array", "_skipkeys", "_item_separator", "_key_separator", "_indent", "_encoder", "_default", "markers"]
@[reducible] def mkKs : List Str := ["_sort_keys"]
theorem mk_b : okB (fnScope (topStmt 16)) mkKs mkFs15 false = true := by decide +kernel
theorem mk_fs : (cellN (fnScope (topStmt 16)).names).reverse = mkFs15 := by decide +kernel
theorem mk_s (w : World) : (fdK w 186).scope = fnScope (topStmt 16) := by kernel_rfl
theorem mk_ok (w : World) : FnOkC (fdK w 186) (fnBody (topStmt 16)) false := ⟨by kernel_rfl, by kernel_rfl, by kernel_rfl, by kernel_rfl⟩
theorem mk_bind (w : World) (b1 b2 b3 b4 b5 b6 b7 b8 b9 b10 b11 : Value) : bindArgs (fdK w 186) ⟨[b1, b2, b3, b4, b5, b6, b7, b8, b9, b10, b11], []⟩ = Pure.pure [(Str.ofString "markers", b1), (Str.ofString "_default", b2), (Str.ofString "_encoder", b3), (Str.ofString "_indent", b4), (Str.ofString "_key_separator", b5), (Str.ofString "_item_separator", b6), (Str.ofString "_sort_keys", b7), (Str.ofString "_skipkeys", b8), (Str.ofString "_tuple_as_array", b9), (Str.ofString "_int_as_string_bitcount", b10), (Str.ofString "_item_sort_key", b11)] := by kernel_rfl
theorem mk_env (w : World) (L : Addr) (cs : List Addr) : EnvOk (envC (fdK w 186) L 186 cs) mkKs mkFs15 := EnvOk.of (mk_s w) mk_b
theorem mk_cells (w : World) (L : Addr) (cs : List Addr) : (envC (fdK w 186) L 186 cs).cells = mkFs15.zip cs := by
  show (cellN (fdK w 186).scope.names).reverse.zip cs = _
  rw [mk_s, mk_fs]
theorem mk_cellk (w : World) (L : Addr) (cs : List Addr) : CellOk (envC (fdK w 186) L 186 cs) mkFs15 := fun x hx => by
  show (fdK w 186).scope.names.lookup x = _
  rw [mk_s]
  exact of_decide_eq_true (List.all_eq_true.mp (show (mkFs15.all fun x => decide ((fnScope (topStmt 16)).names.lookup x = some .cell)) = true by decide +kernel) x hx)
theorem mk_glob (w : World) : (fdK w 186).globals = mainGlobals := by kernel_rfl
theorem mk_code (w : World) : (fdK w 186).code = .ref 185 := by kernel_rfl
def adOf (cs : List Addr) (x : Str) : Addr := ((mkFs15.zip cs).lookup x).getD 0
theorem mk_clos0 (w : World) (L a1 a2 a3 a4 a5 a6 a7 a8 a9 a10 a11 a12 a13 a14 a15 : Addr) : closureFor (fnScope (mkSt 0)) (envC (fdK w 186) L 186 [a1, a2, a3, a4, a5, a6, a7, a8, a9, a10, a11, a12, a13, a14, a15]) = Pure.pure ((mkFs 0).map fun x => (x, adOf [a1, a2, a3, a4, a5, a6, a7, a8, a9, a10, a11, a12, a13, a14, a15] x)) := by kernel_rfl
theorem mk_qual0 (w : World) (L a1 a2 a3 a4 a5 a6 a7 a8 a9 a10 a11 a12 a13 a14 a15 : Addr) : qualnameIn (envC (fdK w 186) L 186 [a1, a2, a3, a4, a5, a6, a7, a8, a9, a10, a11, a12, a13, a14, a15]) (stName (mkSt 0)) (stName (mkSt 0)) = mkQual 0 := by kernel_rfl
theorem mk_clos1 (w : World) (L a1 a2 a3 a4 a5 a6 a7 a8 a9 a10 a11 a12 a13 a14 a15 : Addr) : closureFor (fnScope (mkSt 1)) (envC (fdK w 186) L 186 [a1, a2, a3, a4, a5, a6, a7, a8, a9, a10, a11, a12, a13, a14, a15]) = Pure.pure ((mkFs 1).map fun x => (x, adOf [a1, a2, a3, a4, a5, a6, a7, a8, a9, a10, a11, a12, a13, a14, a15] x)) := by kernel_rfl
theorem mk_qual1 (w : World) (L a1 a2 a3 a4 a5 a6 a7 a8 a9 a10 a11 a12 a13 a14 a15 : Addr) : qualnameIn (envC (fdK w 186) L 186 [a1, a2, a3, a4, a5, a6, a7, a8, a9, a10, a11, a12, a13, a14, a15]) (stName (mkSt 1)) (stName (mkSt 1)) = mkQual 1 := by kernel_rfl
theorem mk_clos2 (w : World) (L a1 a2 a3 a4 a5 a6 a7 a8 a9 a10 a11 a12 a13 a14 a15 : Addr) : closureFor (fnScope (mkSt 2)) (envC (fdK w 186) L 186 [a1, a2, a3, a4, a5, a6, a7, a8, a9, a10, a11, a12, a13, a14, a15]) = Pure.pure ((mkFs 2).map fun x => (x, adOf [a1, a2, a3, a4, a5, a6, a7, a8, a9, a10, a11, a12, a13, a14, a15] x)) := by kernel_rfl
theorem mk_qual2 (w : World) (L a1 a2 a3 a4 a5 a6 a7 a8 a9 a10 a11 a12 a13 a14 a15 : Addr) : qualnameIn (envC (fdK w 186) L 186 [a1, a2, a3, a4, a5, a6, a7, a8, a9, a10, a11, a12, a13, a14, a15]) (stName (mkSt 2)) (stName (mkSt 2)) = mkQual 2 := by kernel_rfl
theorem mk_clos3 (w : World) (L a1 a2 a3 a4 a5 a6 a7 a8 a9 a10 a11 a12 a13 a14 a15 : Addr) : closureFor (fnScope (mkSt 3)) (envC (fdK w 186) L 186 [a1, a2, a3, a4, a5, a6, a7, a8, a9, a10, a11, a12, a13, a14, a15]) = Pure.pure ((mkFs 3).map fun x => (x, adOf [a1, a2, a3, a4, a5, a6, a7, a8, a9, a10, a11, a12, a13, a14, a15] x)) := by kernel_rfl
theorem mk_qual3 (w : World) (L a1 a2 a3 a4 a5 a6 a7 a8 a9 a10 a11 a12 a13 a14 a15 : Addr) : qualnameIn (envC (fdK w 186) L 186 [a1, a2, a3, a4, a5, a6, a7, a8, a9, a10, a11, a12, a13, a14, a15]) (stName (mkSt 3)) (stName (mkSt 3)) = mkQual 3 := by kernel_rfl
theorem mk_clos4 (w : World) (L a1 a2 a3 a4 a5 a6 a7 a8 a9 a10 a11 a12 a13 a14 a15 : Addr) : closureFor (fnScope (mkSt 4)) (envC (fdK w 186) L 186 [a1, a2, a3, a4, a5, a6, a7, a8, a9, a10, a11, a12, a13, a14, a15]) = Pure.pure ((mkFs 4).map fun x => (x, adOf [a1, a2, a3, a4, a5, a6, a7, a8, a9, a10, a11, a12, a13, a14, a15] x)) := by kernel_rfl
theorem mk_qual4 (w : World) (L a1 a2 a3 a4 a5 a6 a7 a8 a9 a10 a11 a12 a13 a14 a15 : Addr) : qualnameIn (envC (fdK w 186) L 186 [a1, a2, a3, a4, a5, a6, a7, a8, a9, a10, a11, a12, a13, a14, a15]) (stName (mkSt 4)) (stName (mkSt 4)) = mkQual 4 := by kernel_rfl
def pick5 {α : Type} (x0 x1 x2 x3 x4 : α) : Nat → α
  | 0 => x0
  | 1 => x1
  | 2 => x2
  | 3 => x3
  | _ => x4
theorem mk_new0 (_u : Unit) : codeAmong (stPos (mkSt 0)) ((#[] : Array Value)).toList = none := by kernel_rfl
theorem mk_new1 (c0 : Addr) : codeAmong (stPos (mkSt 1)) ((#[] : Array Value) ++ mkEnt 0 c0).toList = none := by kernel_rfl
theorem mk_new2 (c0 c1 : Addr) : codeAmong (stPos (mkSt 2)) ((#[] : Array Value) ++ mkEnt 0 c0 ++ mkEnt 1 c1).toList = none := by kernel_rfl
theorem mk_new3 (c0 c1 c2 : Addr) : codeAmong (stPos (mkSt 3)) ((#[] : Array Value) ++ mkEnt 0 c0 ++ mkEnt 1 c1 ++ mkEnt 2 c2).toList = none := by kernel_rfl
theorem mk_new4 (c0 c1 c2 c3 : Addr) : codeAmong (stPos (mkSt 4)) ((#[] : Array Value) ++ mkEnt 0 c0 ++ mkEnt 1 c1 ++ mkEnt 2 c2 ++ mkEnt 3 c3).toList = none := by kernel_rfl
theorem lt5 {P : Nat → Prop} (h0 : P 0) (h1 : P 1) (h2 : P 2) (h3 : P 3) (h4 : P 4) : ∀ i, i < 5 → P i
  | 0, _ => h0
  | 1, _ => h1
  | 2, _ => h2
  | 3, _ => h3
  | 4, _ => h4
  | i + 5, h => absurd h (by omega)
theorem mk_tab {c0 c1 c2 c3 c4 : Addr} {tb : Array Value} (e : tb = (#[] : Array Value) ++ mkEnt 0 c0 ++ mkEnt 1 c1 ++ mkEnt 2 c2 ++ mkEnt 3 c3 ++ mkEnt 4 c4) : TabOk (pick5 c0 c1 c2 c3 c4) tb :=
  ⟨of_eq_true (by rw [e]; kernel_rfl), lt5 (by rw [e]; kernel_rfl) (by rw [e]; kernel_rfl) (by rw [e]; kernel_rfl) (by rw [e]; kernel_rfl) (by rw [e]; kernel_rfl)⟩
-- the code table of _make_iterencode: empty, or full
def cdS (cd : Nat → Addr) (tb : Array Value) : SH := .o 181 (eqP (tabObj tb)) :: (List.range 5).map fun i => .o (cd i) (codeP (mkQual i))
def I181 (S : SH) : Prop := S = [.o 181 (eqP (tabObj #[]))] ∨ ∃ cd tb, TabOk cd tb ∧ S = cdS cd tb
def Grow (S S' : SH) : Prop := (S = [.o 181 (eqP (tabObj #[]))] ∧ ∃ cd tb, TabOk cd tb ∧ S' = cdS cd tb) ∨ ∃ cd tb, TabOk cd tb ∧ S = cdS cd tb ∧ S' = S
theorem Grow.ok {S S' : SH} (h : Grow S S') : I181 S' := by
  rcases h with ⟨_, cd, tb, h1, h2⟩ | ⟨cd, tb, h1, h2, h3⟩
  · exact .inr ⟨cd, tb, h1, h2⟩
  · exact .inr ⟨cd, tb, h1, h3.trans h2⟩
theorem Grow.full {S S' : SH} (h : Grow S S') : ∃ cd tb, TabOk cd tb ∧ S' = cdS cd tb := by
  rcases h with ⟨_, h⟩ | ⟨cd, tb, h1, h2, h3⟩
  · exact h
  · exact ⟨cd, tb, h1, h3.trans h2⟩
def fnP (i : Nat) (cs : List Addr) (doc pm : Value) (c' : Addr) (ctv : Value) : Obj → Prop := eqP (fnMade (stName (mkSt i)) (mkQual i) (fnArgs (mkSt i)) (fnBody (mkSt i)) (fnScope (mkSt i)) ((mkFs i).map fun x => (x, adOf cs x)) doc pm c' ctv)
def ecS (e : EC) : SH := (e.cells.map fun p => .o (e.ad p.1) (cellP (some p.2))) ++ (List.range 5).map fun i => .o (e.fn i) (eqP (e.ob i))
theorem EC.gr_of {e : EC} {R : SH} {tb : Array Value} (h : ∀ c ∈ ecS e ++ cdS e.cd tb, c ∈ R) : e.Gr R where
  cell := fun p hp => h _ (List.mem_append_left _ (List.mem_append_left _ (List.mem_map.mpr ⟨p, hp, rfl⟩)))
  fns := fun i hi => h _ (List.mem_append_left _ (List.mem_append_right _ (List.mem_map.mpr ⟨i, List.mem_range.mpr hi, rfl⟩)))
  cds := fun i hi => h _ (List.mem_append_right _ (.tail _ (List.mem_map.mpr ⟨i, List.mem_range.mpr hi, rfl⟩)))
section
variable {B : Bx} {A : Around} {Ψ : Value → SH → Prop} {σ τ S : SH} {Φ : Value → SH → Prop}
-- what is known of the maker's frame
structure MkEnv (env : Env) (cs : List Addr) : Prop where
  E : EnvOk env mkKs mkFs15
  hc : env.cells = mkFs15.zip cs
  hk : CellOk env mkFs15
  glob : env.globals = mainGlobals
  code : env.code = .ref 185
  clos : ∀ i, i < 5 → closureFor (fnScope (mkSt i)) env = Pure.pure ((mkFs i).map fun x => (x, adOf cs x))
  qual : ∀ i, i < 5 → qualnameIn env (stName (mkSt i)) (stName (mkSt i)) = mkQual i
theorem mk_envOk (w : World) (L a1 a2 a3 a4 a5 a6 a7 a8 a9 a10 a11 a12 a13 a14 a15 : Addr) : MkEnv (envC (fdK w 186) L 186 [a1, a2, a3, a4, a5, a6, a7, a8, a9, a10, a11, a12, a13, a14, a15]) [a1, a2, a3, a4, a5, a6, a7, a8, a9, a10, a11, a12, a13, a14, a15] where
  E := mk_env w L _
  hc := mk_cells w L _
  hk := mk_cellk w L _
  glob := mk_glob w
  code := mk_code w
  clos := lt5 (mk_clos0 w L _ _ _ _ _ _ _ _ _ _ _ _ _ _ _) (mk_clos1 w L _ _ _ _ _ _ _ _ _ _ _ _ _ _ _) (mk_clos2 w L _ _ _ _ _ _ _ _ _ _ _ _ _ _ _) (mk_clos3 w L _ _ _ _ _ _ _ _ _ _ _ _ _ _ _) (mk_clos4 w L _ _ _ _ _ _ _ _ _ _ _ _ _ _ _)
  qual := lt5 (mk_qual0 w L _ _ _ _ _ _ _ _ _ _ _ _ _ _ _) (mk_qual1 w L _ _ _ _ _ _ _ _ _ _ _ _ _ _ _) (mk_qual2 w L _ _ _ _ _ _ _ _ _ _ _ _ _ _ _) (mk_qual3 w L _ _ _ _ _ _ _ _ _ _ _ _ _ _ _) (mk_qual4 w L _ _ _ _ _ _ _ _ _ _ _ _ _ _ _)
variable {env : Env}
-- one def of the maker's body: its code is new, or known
theorem mk_def {i : Nat} {cs : List Addr} {tb : Array Value} {c : Cl} (M : MkEnv env cs) (hi : i < 5) (ht : TriplesOk tb.toList) (hnf : codeAmong (stPos (mkSt i)) tb.toList = none)
    (x : ∀ f c' doc pm ctv, Φ (.ref f) (c :: .o f (fnP i cs doc pm c' ctv) :: .o c' (codeP (mkQual i)) :: .o 181 (eqP (tabObj (tb ++ mkEnt i c'))) :: σ)) :
    Sw B A (makeFunction (stName (mkSt i)) (mkQual i) (fnArgs (mkSt i)) (.stmts (fnBody (mkSt i))) (fnScope (mkSt i)) env [] [] [] (stPos (mkSt i)) (stPos (mkSt i)).line) Φ Ψ (c :: .o 181 (eqP (tabObj tb)) :: σ) := by
  refine Sw.look fun h0 g0 O0 => ?_
  refine Sw.shrink (Sw.makeFn_new (ps := tb) (τ := fun c' => c :: .o 181 (eqP (tabObj (tb ++ mkEnt i c'))) :: σ) (clos := (mkFs i).map fun x => (x, adOf cs x)) (M.clos i hi) M.glob M.code (codeHd_181 O0.wf) ht hnf (fun c' => .tail .head) ?_)
  intro f c' doc pm ctv
  refine ⟨_, ?_, x f c' doc pm ctv⟩
  rw [show fnP i cs doc pm c' ctv = eqP (fnMade (stName (mkSt i)) (mkQual i) (fnArgs (mkSt i)) (fnBody (mkSt i)) (fnScope (mkSt i)) ((mkFs i).map fun x => (x, adOf cs x)) doc pm c' ctv) from rfl]
  walk_at "subp"
theorem mk_defH {i : Nat} {cs : List Addr} {tb : Array Value} {cd : Nat → Addr} {c : Cl} (M : MkEnv env cs) (hi : i < 5) (ht : TabOk cd tb) (m : Cl.o 181 (eqP (tabObj tb)) ∈ c :: σ)
    (x : ∀ f doc pm ctv, Φ (.ref f) (c :: .o f (fnP i cs doc pm (cd i) ctv) :: σ)) :
    Sw B A (makeFunction (stName (mkSt i)) (mkQual i) (fnArgs (mkSt i)) (.stmts (fnBody (mkSt i))) (fnScope (mkSt i)) env [] [] [] (stPos (mkSt i)) (stPos (mkSt i)).line) Φ Ψ (c :: σ) := by
  refine Sw.look fun h0 g0 O0 => ?_
  refine Sw.shrink (Sw.makeFn_hit (ps := tb) (c' := cd i) (clos := (mkFs i).map fun x => (x, adOf cs x)) (M.clos i hi) M.glob M.code (codeHd_181 O0.wf) ht.tr (ht.hit i hi) m ?_)
  intro f doc pm ctv
  refine ⟨_, ?_, x f doc pm ctv⟩
  rw [show fnP i cs doc pm (cd i) ctv = eqP (fnMade (stName (mkSt i)) (mkQual i) (fnArgs (mkSt i)) (fnBody (mkSt i)) (fnScope (mkSt i)) ((mkFs i).map fun x => (x, adOf cs x)) doc pm (cd i) ctv) from rfl]
  walk_at "subp"
end
end

-- H7
section
theorem ecS_eq (m : Addr) (ind isep ksep dflt : Value) (a1 a2 a3 a4 a5 a6 a7 a8 a9 a10 a11 a12 a13 a14 a15 f0 f1 f2 f3 f4 : Addr) (cd : Nat → Addr) (d0 d1 d2 d3 d4 p0 p1 p2 p3 p4 ct0 ct1 ct2 ct3 ct4 : Value) : ecS { m := m, ind := ind, isep := isep, ksep := ksep, dflt := dflt, ad := adOf [a1, a2, a3, a4, a5, a6, a7, a8, a9, a10, a11, a12, a13, a14, a15], fn := pick5 f0 f1 f2 f3 f4, cd := cd, doc := pick5 d0 d1 d2 d3 d4, pm := pick5 p0 p1 p2 p3 p4, ctv := pick5 ct0 ct1 ct2 ct3 ct4 } = [.o a14 (cellP (some (dflt))), .o a5 (cellP (some (.ref f0))), .o a13 (cellP (some (.ref 78))), .o a12 (cellP (some (ind))), .o a7 (cellP (some (.none))), .o a10 (cellP (some (isep))), .o a6 (cellP (some (.none))), .o a4 (cellP (some (.ref f4))), .o a3 (cellP (some (.ref f3))), .o a2 (cellP (some (.ref f1))), .o a11 (cellP (some (ksep))), .o a9 (cellP (some (.bool false))), .o a1 (cellP (some (.ref f2))), .o a8 (cellP (some (.bool true))), .o a15 (cellP (some (.ref m))), .o f0 (fnP 0 [a1, a2, a3, a4, a5, a6, a7, a8, a9, a10, a11, a12, a13, a14, a15] d0 p0 (cd 0) ct0), .o f1 (fnP 1 [a1, a2, a3, a4, a5, a6, a7, a8, a9, a10, a11, a12, a13, a14, a15] d1 p1 (cd 1) ct1), .o f2 (fnP 2 [a1, a2, a3, a4, a5, a6, a7, a8, a9, a10, a11, a12, a13, a14, a15] d2 p2 (cd 2) ct2), .o f3 (fnP 3 [a1, a2, a3, a4, a5, a6, a7, a8, a9, a10, a11, a12, a13, a14, a15] d3 p3 (cd 3) ct3), .o f4 (fnP 4 [a1, a2, a3, a4, a5, a6, a7, a8, a9, a10, a11, a12, a13, a14, a15] d4 p4 (cd 4) ct4)] := by kernel_rfl
theorem cdS_eq (cd : Nat → Addr) (tb : Array Value) : cdS cd tb = [.o 181 (eqP (tabObj tb)), .o (cd 0) (codeP (mkQual 0)), .o (cd 1) (codeP (mkQual 1)), .o (cd 2) (codeP (mkQual 2)), .o (cd 3) (codeP (mkQual 3)), .o (cd 4) (codeP (mkQual 4))] := by kernel_rfl
def mkS (k : Nat) : Stmt := ((fnBody (topStmt 16))[k]?).getD (.Pass default)
theorem mkS_all : fnBody (topStmt 16) = [mkS 0, mkS 1, mkSt 0, mkSt 1, mkSt 2, mkSt 3, mkSt 4, mkS 7] := by kernel_rfl
def defOf' (st : Stmt) : Stmt := .FunctionDef (stName st) (fnArgs st) (fnBody st) [] none [] (fnScope st) none (stName st) (stPos st)
theorem mkSt_eq0 : mkSt 0 = defOf' (mkSt 0) := by kernel_rfl
theorem mkSt_d0 : (fnArgs (mkSt 0)).defaults = [] ∧ (fnArgs (mkSt 0)).kw_defaults = [] := ⟨by kernel_rfl, by kernel_rfl⟩
theorem mkSt_a0 (env : Env) : annTrees (fnArgs (mkSt 0)) none env = [] := by kernel_rfl
theorem mkSt_n0 : stName (mkSt 0) = Str.ofString "_encode_int" := by kernel_rfl
theorem mkSt_eq1 : mkSt 1 = defOf' (mkSt 1) := by kernel_rfl
theorem mkSt_d1 : (fnArgs (mkSt 1)).defaults = [] ∧ (fnArgs (mkSt 1)).kw_defaults = [] := ⟨by kernel_rfl, by kernel_rfl⟩
theorem mkSt_a1 (env : Env) : annTrees (fnArgs (mkSt 1)) none env = [] := by kernel_rfl
theorem mkSt_n1 : stName (mkSt 1) = Str.ofString "_iterencode_list" := by kernel_rfl
theorem mkSt_eq2 : mkSt 2 = defOf' (mkSt 2) := by kernel_rfl
theorem mkSt_d2 : (fnArgs (mkSt 2)).defaults = [] ∧ (fnArgs (mkSt 2)).kw_defaults = [] := ⟨by kernel_rfl, by kernel_rfl⟩
theorem mkSt_a2 (env : Env) : annTrees (fnArgs (mkSt 2)) none env = [] := by kernel_rfl
theorem mkSt_n2 : stName (mkSt 2) = Str.ofString "_stringify_key" := by kernel_rfl
theorem mkSt_eq3 : mkSt 3 = defOf' (mkSt 3) := by kernel_rfl
theorem mkSt_d3 : (fnArgs (mkSt 3)).defaults = [] ∧ (fnArgs (mkSt 3)).kw_defaults = [] := ⟨by kernel_rfl, by kernel_rfl⟩
theorem mkSt_a3 (env : Env) : annTrees (fnArgs (mkSt 3)) none env = [] := by kernel_rfl
theorem mkSt_n3 : stName (mkSt 3) = Str.ofString "_iterencode_dict" := by kernel_rfl
theorem mkSt_eq4 : mkSt 4 = defOf' (mkSt 4) := by kernel_rfl
theorem mkSt_d4 : (fnArgs (mkSt 4)).defaults = [] ∧ (fnArgs (mkSt 4)).kw_defaults = [] := ⟨by kernel_rfl, by kernel_rfl⟩
theorem mkSt_a4 (env : Env) : annTrees (fnArgs (mkSt 4)) none env = [] := by kernel_rfl
theorem mkSt_n4 : stName (mkSt 4) = Str.ofString "_iterencode" := by kernel_rfl
section
variable {B : Bx} {A : Around} {Ψ : Value → SH → Prop} {σ τ S : SH} {env : Env}
theorem mk_exec {i : Nat} {n : Str} {Φ : Flow → SH → Prop} (h1 : mkSt i = defOf' (mkSt i)) (h2 : (fnArgs (mkSt i)).defaults = [] ∧ (fnArgs (mkSt i)).kw_defaults = []) (h3 : annTrees (fnArgs (mkSt i)) none env = []) (h4 : stName (mkSt i) = n) (h5 : qualnameIn env (stName (mkSt i)) (stName (mkSt i)) = mkQual i)
    (x : Sw B A (makeFunction (stName (mkSt i)) (mkQual i) (fnArgs (mkSt i)) (.stmts (fnBody (mkSt i))) (fnScope (mkSt i)) env [] [] [] (stPos (mkSt i)) (stPos (mkSt i)).line) (fun v τ => Sw B A (storeName env n v) (fun _ => Φ .next) Ψ τ) Ψ σ) : Sw B A (exec (mkSt i) env) Φ Ψ σ := by
  rw [h1]
  refine Sw.s_Def h2.1 h2.2 h3 ?_
  rw [h5]
  rw [← h4] at x
  exact x
theorem mk_ifs {cs : List Addr} {c6 c7 : Addr} {rest : List Stmt} {Φ : Flow → SH → Prop} (M : MkEnv env cs) (a6 : CAt (Str.ofString "_item_sort_key") c6 mkFs15 cs) (a7 : CAt (Str.ofString "_int_as_string_bitcount") c7 mkFs15 cs) (m6 : Cl.o c6 (cellP (some .none)) ∈ σ) (m7 : Cl.o c7 (cellP (some .none)) ∈ σ)
    (x : Sw B A (execs rest env) Φ Ψ (.o env.locals (frameP mkKs [some (.bool false)]) :: σ)) : Sw B A (execs (mkS 0 :: mkS 1 :: rest) env) Φ Ψ (.o env.locals (frameP mkKs [some (.bool false)]) :: σ) := by
  have E := M.E
  have hc := M.hc
  refine Sw.execs_cons (Sw.s_If (Sw.isTrue_and ?_))
  refine Sw.isTrue_Name ?_
  refine Sw.ld E (by walk_at "nat") ?_
  refine Sw.truthy_bool ?_
  refine ite_neg Bool.false_ne_true ?_
  refine ite_neg Bool.false_ne_true ?_
  refine Sw.execs_nil ?_
  refine Sw.execs_cons (Sw.s_If (Sw.isTrue_and ?_))
  refine Sw.isTrue_Compare ?_
  refine Sw.ldc E hc a7 (.tail _ m7) ?_
  refine Sw.e_Const_none ?_
  refine Sw.isnot_plain rfl ?_
  refine Sw.truthy_bool ?_
  refine ite_neg (by decide) ?_
  refine ite_neg Bool.false_ne_true ?_
  exact Sw.execs_nil x
theorem mk_start {m : Addr} {ind isep ksep dflt : Value} {a1 a2 a3 a4 a5 a6 a7 a8 a9 a10 a11 a12 a13 a14 a15 : Addr} {Q : Unit → SH → Prop} (M : MkEnv env [a1, a2, a3, a4, a5, a6, a7, a8, a9, a10, a11, a12, a13, a14, a15]) (x : Q () (.o env.locals (frameP mkKs [some (.bool false)]) :: .o a1 (cellP none) :: .o a2 (cellP none) :: .o a3 (cellP none) :: .o a4 (cellP none) :: .o a5 (cellP none) :: .o a6 (cellP (some (.none))) :: .o a7 (cellP (some (.none))) :: .o a8 (cellP (some (.bool true))) :: .o a9 (cellP (some (.bool false))) :: .o a10 (cellP (some (isep))) :: .o a11 (cellP (some (ksep))) :: .o a12 (cellP (some (ind))) :: .o a13 (cellP (some (.ref 78))) :: .o a14 (cellP (some (dflt))) :: .o a15 (cellP (some (.ref m))) :: σ)) :
    Sw B A (bindsLoop env [(Str.ofString "markers", .ref m), (Str.ofString "_default", dflt), (Str.ofString "_encoder", .ref 78), (Str.ofString "_indent", ind), (Str.ofString "_key_separator", ksep), (Str.ofString "_item_separator", isep), (Str.ofString "_sort_keys", .bool false), (Str.ofString "_skipkeys", .bool false), (Str.ofString "_tuple_as_array", .bool true), (Str.ofString "_int_as_string_bitcount", .none), (Str.ofString "_item_sort_key", .none)]) Q Ψ (.o env.locals (frameP mkKs [none]) :: .o a1 (cellP none) :: .o a2 (cellP none) :: .o a3 (cellP none) :: .o a4 (cellP none) :: .o a5 (cellP none) :: .o a6 (cellP none) :: .o a7 (cellP none) :: .o a8 (cellP none) :: .o a9 (cellP none) :: .o a10 (cellP none) :: .o a11 (cellP none) :: .o a12 (cellP none) :: .o a13 (cellP none) :: .o a14 (cellP none) :: .o a15 (cellP none) :: σ) := by
  have E := M.E
  have hc := M.hc
  have hk := M.hk
  refine Sw.bindsCons ?_
  refine' Sw.stC E hk hc ?zca ?zcu ?_
  case zca => walk_at "cat"
  case zcu => walk_at "upd"
  refine Sw.bindsCons ?_
  refine' Sw.stC E hk hc ?zca ?zcu ?_
  case zca => walk_at "cat"
  case zcu => walk_at "upd"
  refine Sw.bindsCons ?_
  refine' Sw.stC E hk hc ?zca ?zcu ?_
  case zca => walk_at "cat"
  case zcu => walk_at "upd"
  refine Sw.bindsCons ?_
  refine' Sw.stC E hk hc ?zca ?zcu ?_
  case zca => walk_at "cat"
  case zcu => walk_at "upd"
  refine Sw.bindsCons ?_
  refine' Sw.stC E hk hc ?zca ?zcu ?_
  case zca => walk_at "cat"
  case zcu => walk_at "upd"
  refine Sw.bindsCons ?_
  refine' Sw.stC E hk hc ?zca ?zcu ?_
  case zca => walk_at "cat"
  case zcu => walk_at "upd"
  refine Sw.bindsCons (Sw.st E .head ?_)
  refine Sw.bindsCons ?_
  refine' Sw.stC E hk hc ?zca ?zcu ?_
  case zca => walk_at "cat"
  case zcu => walk_at "upd"
  refine Sw.bindsCons ?_
  refine' Sw.stC E hk hc ?zca ?zcu ?_
  case zca => walk_at "cat"
  case zcu => walk_at "upd"
  refine Sw.bindsCons ?_
  refine' Sw.stC E hk hc ?zca ?zcu ?_
  case zca => walk_at "cat"
  case zcu => walk_at "upd"
  refine Sw.bindsCons ?_
  refine' Sw.stC E hk hc ?zca ?zcu ?_
  case zca => walk_at "cat"
  case zcu => walk_at "upd"
  exact Sw.bindsNil x
theorem mk_body_new {m : Addr} {ind isep ksep dflt : Value} {a1 a2 a3 a4 a5 a6 a7 a8 a9 a10 a11 a12 a13 a14 a15 : Addr} {Q : Value → SH → Prop} (M : MkEnv env [a1, a2, a3, a4, a5, a6, a7, a8, a9, a10, a11, a12, a13, a14, a15]) (x : ∀ e : EC, e.m = m → e.ind = ind → e.isep = isep → e.ksep = ksep → ∀ S', Grow ([.o 181 (eqP (tabObj #[]))]) S' → e.Gr (ecS e ++ S') → Q (.ref (e.fn 4)) (ecS e ++ (S' ++ σ))) :
    Sw B A (execs (fnBody (topStmt 16)) env) (fun f τ => ∃ τ' : SH, τ'.Sublist τ ∧ Q (retV f) τ') NoE (.o env.locals (frameP mkKs [some (.bool false)]) :: .o a1 (cellP none) :: .o a2 (cellP none) :: .o a3 (cellP none) :: .o a4 (cellP none) :: .o a5 (cellP none) :: .o a6 (cellP (some (.none))) :: .o a7 (cellP (some (.none))) :: .o a8 (cellP (some (.bool true))) :: .o a9 (cellP (some (.bool false))) :: .o a10 (cellP (some (isep))) :: .o a11 (cellP (some (ksep))) :: .o a12 (cellP (some (ind))) :: .o a13 (cellP (some (.ref 78))) :: .o a14 (cellP (some (dflt))) :: .o a15 (cellP (some (.ref m))) :: .o 181 (eqP (tabObj #[])) :: σ) := by
  have E := M.E
  have hc := M.hc
  have hk := M.hk
  rw [mkS_all]
  refine mk_ifs M (c6 := a6) (c7 := a7) (by walk_at "cat") (by walk_at "cat") (by walk_at "mem") (by walk_at "mem") ?_
  refine Sw.execs_cons (mk_exec (i := 0) mkSt_eq0 mkSt_d0 (mkSt_a0 _) mkSt_n0 (M.qual 0 (by decide)) ?_)
  refine Sw.subp (τ := .o env.locals (frameP mkKs [some (.bool false)]) :: .o 181 (eqP (tabObj (#[] : Array Value))) :: .o a1 (cellP none) :: .o a2 (cellP none) :: .o a3 (cellP none) :: .o a4 (cellP none) :: .o a5 (cellP none) :: .o a6 (cellP (some (.none))) :: .o a7 (cellP (some (.none))) :: .o a8 (cellP (some (.bool true))) :: .o a9 (cellP (some (.bool false))) :: .o a10 (cellP (some (isep))) :: .o a11 (cellP (some (ksep))) :: .o a12 (cellP (some (ind))) :: .o a13 (cellP (some (.ref 78))) :: .o a14 (cellP (some (dflt))) :: .o a15 (cellP (some (.ref m))) :: σ) ?_ (by walk_at "subp")
  refine mk_def M (by decide) trivial rfl ?_
  intro f0 c0 d0 p0 ct0
  obtain ⟨t1, e1⟩ : ∃ t, t = (#[] : Array Value) ++ mkEnt 0 c0 := ⟨_, rfl⟩
  rw [← e1]
  refine Sw.subp (τ := .o env.locals (frameP mkKs [some (.bool false)]) :: .o a1 (cellP none) :: .o a2 (cellP none) :: .o a3 (cellP none) :: .o a4 (cellP none) :: .o a5 (cellP none) :: .o a6 (cellP (some (.none))) :: .o a7 (cellP (some (.none))) :: .o a8 (cellP (some (.bool true))) :: .o a9 (cellP (some (.bool false))) :: .o a10 (cellP (some (isep))) :: .o a11 (cellP (some (ksep))) :: .o a12 (cellP (some (ind))) :: .o a13 (cellP (some (.ref 78))) :: .o a14 (cellP (some (dflt))) :: .o a15 (cellP (some (.ref m))) :: .o 181 (eqP (tabObj t1)) :: .o f0 (fnP 0 [a1, a2, a3, a4, a5, a6, a7, a8, a9, a10, a11, a12, a13, a14, a15] d0 p0 c0 ct0) :: .o c0 (codeP (mkQual 0)) :: σ) ?_ (by walk_at "subp")
  refine' Sw.stC E hk hc ?zca ?zcu ?_
  case zca => walk_at "cat"
  case zcu => walk_at "upd"
  refine Sw.execs_cons (mk_exec (i := 1) mkSt_eq1 mkSt_d1 (mkSt_a1 _) mkSt_n1 (M.qual 1 (by decide)) ?_)
  refine Sw.subp (τ := .o env.locals (frameP mkKs [some (.bool false)]) :: .o 181 (eqP (tabObj t1)) :: .o a1 (cellP none) :: .o a2 (cellP none) :: .o a3 (cellP none) :: .o a4 (cellP none) :: .o a5 (cellP (some (.ref f0))) :: .o a6 (cellP (some (.none))) :: .o a7 (cellP (some (.none))) :: .o a8 (cellP (some (.bool true))) :: .o a9 (cellP (some (.bool false))) :: .o a10 (cellP (some (isep))) :: .o a11 (cellP (some (ksep))) :: .o a12 (cellP (some (ind))) :: .o a13 (cellP (some (.ref 78))) :: .o a14 (cellP (some (dflt))) :: .o a15 (cellP (some (.ref m))) :: .o f0 (fnP 0 [a1, a2, a3, a4, a5, a6, a7, a8, a9, a10, a11, a12, a13, a14, a15] d0 p0 c0 ct0) :: .o c0 (codeP (mkQual 0)) :: σ) ?_ (by walk_at "subp")
  refine mk_def M (by decide) (of_eq_true (by rw [e1]; kernel_rfl)) (by rw [e1]; kernel_rfl) ?_
  intro f1 c1 d1 p1 ct1
  obtain ⟨t2, e2⟩ : ∃ t, t = t1 ++ mkEnt 1 c1 := ⟨_, rfl⟩
  rw [← e2]
  refine Sw.subp (τ := .o env.locals (frameP mkKs [some (.bool false)]) :: .o a1 (cellP none) :: .o a2 (cellP none) :: .o a3 (cellP none) :: .o a4 (cellP none) :: .o a5 (cellP (some (.ref f0))) :: .o a6 (cellP (some (.none))) :: .o a7 (cellP (some (.none))) :: .o a8 (cellP (some (.bool true))) :: .o a9 (cellP (some (.bool false))) :: .o a10 (cellP (some (isep))) :: .o a11 (cellP (some (ksep))) :: .o a12 (cellP (some (ind))) :: .o a13 (cellP (some (.ref 78))) :: .o a14 (cellP (some (dflt))) :: .o a15 (cellP (some (.ref m))) :: .o 181 (eqP (tabObj t2)) :: .o f0 (fnP 0 [a1, a2, a3, a4, a5, a6, a7, a8, a9, a10, a11, a12, a13, a14, a15] d0 p0 c0 ct0) :: .o f1 (fnP 1 [a1, a2, a3, a4, a5, a6, a7, a8, a9, a10, a11, a12, a13, a14, a15] d1 p1 c1 ct1) :: .o c0 (codeP (mkQual 0)) :: .o c1 (codeP (mkQual 1)) :: σ) ?_ (by walk_at "subp")
  refine' Sw.stC E hk hc ?zca ?zcu ?_
  case zca => walk_at "cat"
  case zcu => walk_at "upd"
  refine Sw.execs_cons (mk_exec (i := 2) mkSt_eq2 mkSt_d2 (mkSt_a2 _) mkSt_n2 (M.qual 2 (by decide)) ?_)
  refine Sw.subp (τ := .o env.locals (frameP mkKs [some (.bool false)]) :: .o 181 (eqP (tabObj t2)) :: .o a1 (cellP none) :: .o a2 (cellP (some (.ref f1))) :: .o a3 (cellP none) :: .o a4 (cellP none) :: .o a5 (cellP (some (.ref f0))) :: .o a6 (cellP (some (.none))) :: .o a7 (cellP (some (.none))) :: .o a8 (cellP (some (.bool true))) :: .o a9 (cellP (some (.bool false))) :: .o a10 (cellP (some (isep))) :: .o a11 (cellP (some (ksep))) :: .o a12 (cellP (some (ind))) :: .o a13 (cellP (some (.ref 78))) :: .o a14 (cellP (some (dflt))) :: .o a15 (cellP (some (.ref m))) :: .o f0 (fnP 0 [a1, a2, a3, a4, a5, a6, a7, a8, a9, a10, a11, a12, a13, a14, a15] d0 p0 c0 ct0) :: .o f1 (fnP 1 [a1, a2, a3, a4, a5, a6, a7, a8, a9, a10, a11, a12, a13, a14, a15] d1 p1 c1 ct1) :: .o c0 (codeP (mkQual 0)) :: .o c1 (codeP (mkQual 1)) :: σ) ?_ (by walk_at "subp")
  refine mk_def M (by decide) (of_eq_true (by rw [e2, e1]; kernel_rfl)) (by rw [e2, e1]; kernel_rfl) ?_
  intro f2 c2 d2 p2 ct2
  obtain ⟨t3, e3⟩ : ∃ t, t = t2 ++ mkEnt 2 c2 := ⟨_, rfl⟩
  rw [← e3]
  refine Sw.subp (τ := .o env.locals (frameP mkKs [some (.bool false)]) :: .o a1 (cellP none) :: .o a2 (cellP (some (.ref f1))) :: .o a3 (cellP none) :: .o a4 (cellP none) :: .o a5 (cellP (some (.ref f0))) :: .o a6 (cellP (some (.none))) :: .o a7 (cellP (some (.none))) :: .o a8 (cellP (some (.bool true))) :: .o a9 (cellP (some (.bool false))) :: .o a10 (cellP (some (isep))) :: .o a11 (cellP (some (ksep))) :: .o a12 (cellP (some (ind))) :: .o a13 (cellP (some (.ref 78))) :: .o a14 (cellP (some (dflt))) :: .o a15 (cellP (some (.ref m))) :: .o 181 (eqP (tabObj t3)) :: .o f0 (fnP 0 [a1, a2, a3, a4, a5, a6, a7, a8, a9, a10, a11, a12, a13, a14, a15] d0 p0 c0 ct0) :: .o f1 (fnP 1 [a1, a2, a3, a4, a5, a6, a7, a8, a9, a10, a11, a12, a13, a14, a15] d1 p1 c1 ct1) :: .o f2 (fnP 2 [a1, a2, a3, a4, a5, a6, a7, a8, a9, a10, a11, a12, a13, a14, a15] d2 p2 c2 ct2) :: .o c0 (codeP (mkQual 0)) :: .o c1 (codeP (mkQual 1)) :: .o c2 (codeP (mkQual 2)) :: σ) ?_ (by walk_at "subp")
  refine' Sw.stC E hk hc ?zca ?zcu ?_
  case zca => walk_at "cat"
  case zcu => walk_at "upd"
  refine Sw.execs_cons (mk_exec (i := 3) mkSt_eq3 mkSt_d3 (mkSt_a3 _) mkSt_n3 (M.qual 3 (by decide)) ?_)
  refine Sw.subp (τ := .o env.locals (frameP mkKs [some (.bool false)]) :: .o 181 (eqP (tabObj t3)) :: .o a1 (cellP (some (.ref f2))) :: .o a2 (cellP (some (.ref f1))) :: .o a3 (cellP none) :: .o a4 (cellP none) :: .o a5 (cellP (some (.ref f0))) :: .o a6 (cellP (some (.none))) :: .o a7 (cellP (some (.none))) :: .o a8 (cellP (some (.bool true))) :: .o a9 (cellP (some (.bool false))) :: .o a10 (cellP (some (isep))) :: .o a11 (cellP (some (ksep))) :: .o a12 (cellP (some (ind))) :: .o a13 (cellP (some (.ref 78))) :: .o a14 (cellP (some (dflt))) :: .o a15 (cellP (some (.ref m))) :: .o f0 (fnP 0 [a1, a2, a3, a4, a5, a6, a7, a8, a9, a10, a11, a12, a13, a14, a15] d0 p0 c0 ct0) :: .o f1 (fnP 1 [a1, a2, a3, a4, a5, a6, a7, a8, a9, a10, a11, a12, a13, a14, a15] d1 p1 c1 ct1) :: .o f2 (fnP 2 [a1, a2, a3, a4, a5, a6, a7, a8, a9, a10, a11, a12, a13, a14, a15] d2 p2 c2 ct2) :: .o c0 (codeP (mkQual 0)) :: .o c1 (codeP (mkQual 1)) :: .o c2 (codeP (mkQual 2)) :: σ) ?_ (by walk_at "subp")
  refine mk_def M (by decide) (of_eq_true (by rw [e3, e2, e1]; kernel_rfl)) (by rw [e3, e2, e1]; kernel_rfl) ?_
  intro f3 c3 d3 p3 ct3
  obtain ⟨t4, e4⟩ : ∃ t, t = t3 ++ mkEnt 3 c3 := ⟨_, rfl⟩
  rw [← e4]
  refine Sw.subp (τ := .o env.locals (frameP mkKs [some (.bool false)]) :: .o a1 (cellP (some (.ref f2))) :: .o a2 (cellP (some (.ref f1))) :: .o a3 (cellP none) :: .o a4 (cellP none) :: .o a5 (cellP (some (.ref f0))) :: .o a6 (cellP (some (.none))) :: .o a7 (cellP (some (.none))) :: .o a8 (cellP (some (.bool true))) :: .o a9 (cellP (some (.bool false))) :: .o a10 (cellP (some (isep))) :: .o a11 (cellP (some (ksep))) :: .o a12 (cellP (some (ind))) :: .o a13 (cellP (some (.ref 78))) :: .o a14 (cellP (some (dflt))) :: .o a15 (cellP (some (.ref m))) :: .o 181 (eqP (tabObj t4)) :: .o f0 (fnP 0 [a1, a2, a3, a4, a5, a6, a7, a8, a9, a10, a11, a12, a13, a14, a15] d0 p0 c0 ct0) :: .o f1 (fnP 1 [a1, a2, a3, a4, a5, a6, a7, a8, a9, a10, a11, a12, a13, a14, a15] d1 p1 c1 ct1) :: .o f2 (fnP 2 [a1, a2, a3, a4, a5, a6, a7, a8, a9, a10, a11, a12, a13, a14, a15] d2 p2 c2 ct2) :: .o f3 (fnP 3 [a1, a2, a3, a4, a5, a6, a7, a8, a9, a10, a11, a12, a13, a14, a15] d3 p3 c3 ct3) :: .o c0 (codeP (mkQual 0)) :: .o c1 (codeP (mkQual 1)) :: .o c2 (codeP (mkQual 2)) :: .o c3 (codeP (mkQual 3)) :: σ) ?_ (by walk_at "subp")
  refine' Sw.stC E hk hc ?zca ?zcu ?_
  case zca => walk_at "cat"
  case zcu => walk_at "upd"
  refine Sw.execs_cons (mk_exec (i := 4) mkSt_eq4 mkSt_d4 (mkSt_a4 _) mkSt_n4 (M.qual 4 (by decide)) ?_)
  refine Sw.subp (τ := .o env.locals (frameP mkKs [some (.bool false)]) :: .o 181 (eqP (tabObj t4)) :: .o a1 (cellP (some (.ref f2))) :: .o a2 (cellP (some (.ref f1))) :: .o a3 (cellP (some (.ref f3))) :: .o a4 (cellP none) :: .o a5 (cellP (some (.ref f0))) :: .o a6 (cellP (some (.none))) :: .o a7 (cellP (some (.none))) :: .o a8 (cellP (some (.bool true))) :: .o a9 (cellP (some (.bool false))) :: .o a10 (cellP (some (isep))) :: .o a11 (cellP (some (ksep))) :: .o a12 (cellP (some (ind))) :: .o a13 (cellP (some (.ref 78))) :: .o a14 (cellP (some (dflt))) :: .o a15 (cellP (some (.ref m))) :: .o f0 (fnP 0 [a1, a2, a3, a4, a5, a6, a7, a8, a9, a10, a11, a12, a13, a14, a15] d0 p0 c0 ct0) :: .o f1 (fnP 1 [a1, a2, a3, a4, a5, a6, a7, a8, a9, a10, a11, a12, a13, a14, a15] d1 p1 c1 ct1) :: .o f2 (fnP 2 [a1, a2, a3, a4, a5, a6, a7, a8, a9, a10, a11, a12, a13, a14, a15] d2 p2 c2 ct2) :: .o f3 (fnP 3 [a1, a2, a3, a4, a5, a6, a7, a8, a9, a10, a11, a12, a13, a14, a15] d3 p3 c3 ct3) :: .o c0 (codeP (mkQual 0)) :: .o c1 (codeP (mkQual 1)) :: .o c2 (codeP (mkQual 2)) :: .o c3 (codeP (mkQual 3)) :: σ) ?_ (by walk_at "subp")
  refine mk_def M (by decide) (of_eq_true (by rw [e4, e3, e2, e1]; kernel_rfl)) (by rw [e4, e3, e2, e1]; kernel_rfl) ?_
  intro f4 c4 d4 p4 ct4
  obtain ⟨t5, e5⟩ : ∃ t, t = t4 ++ mkEnt 4 c4 := ⟨_, rfl⟩
  rw [← e5]
  refine Sw.subp (τ := .o env.locals (frameP mkKs [some (.bool false)]) :: .o a1 (cellP (some (.ref f2))) :: .o a2 (cellP (some (.ref f1))) :: .o a3 (cellP (some (.ref f3))) :: .o a4 (cellP none) :: .o a5 (cellP (some (.ref f0))) :: .o a6 (cellP (some (.none))) :: .o a7 (cellP (some (.none))) :: .o a8 (cellP (some (.bool true))) :: .o a9 (cellP (some (.bool false))) :: .o a10 (cellP (some (isep))) :: .o a11 (cellP (some (ksep))) :: .o a12 (cellP (some (ind))) :: .o a13 (cellP (some (.ref 78))) :: .o a14 (cellP (some (dflt))) :: .o a15 (cellP (some (.ref m))) :: .o 181 (eqP (tabObj t5)) :: .o f0 (fnP 0 [a1, a2, a3, a4, a5, a6, a7, a8, a9, a10, a11, a12, a13, a14, a15] d0 p0 c0 ct0) :: .o f1 (fnP 1 [a1, a2, a3, a4, a5, a6, a7, a8, a9, a10, a11, a12, a13, a14, a15] d1 p1 c1 ct1) :: .o f2 (fnP 2 [a1, a2, a3, a4, a5, a6, a7, a8, a9, a10, a11, a12, a13, a14, a15] d2 p2 c2 ct2) :: .o f3 (fnP 3 [a1, a2, a3, a4, a5, a6, a7, a8, a9, a10, a11, a12, a13, a14, a15] d3 p3 c3 ct3) :: .o f4 (fnP 4 [a1, a2, a3, a4, a5, a6, a7, a8, a9, a10, a11, a12, a13, a14, a15] d4 p4 c4 ct4) :: .o c0 (codeP (mkQual 0)) :: .o c1 (codeP (mkQual 1)) :: .o c2 (codeP (mkQual 2)) :: .o c3 (codeP (mkQual 3)) :: .o c4 (codeP (mkQual 4)) :: σ) ?_ (by walk_at "subp")
  refine' Sw.stC E hk hc ?zca ?zcu ?_
  case zca => walk_at "cat"
  case zcu => walk_at "upd"
  have z := x { m := m, ind := ind, isep := isep, ksep := ksep, dflt := dflt, ad := adOf [a1, a2, a3, a4, a5, a6, a7, a8, a9, a10, a11, a12, a13, a14, a15], fn := pick5 f0 f1 f2 f3 f4, cd := (pick5 c0 c1 c2 c3 c4), doc := pick5 d0 d1 d2 d3 d4, pm := pick5 p0 p1 p2 p3 p4, ctv := pick5 ct0 ct1 ct2 ct3 ct4 } rfl rfl rfl rfl (cdS (pick5 c0 c1 c2 c3 c4) t5) (.inl ⟨rfl, _, _, mk_tab (by rw [e5, e4, e3, e2, e1]), rfl⟩) (EC.gr_of (tb := t5) fun c hc => hc)
  rw [ecS_eq, cdS_eq] at z
  refine Sw.subp (τ := .o env.locals (frameP mkKs [some (.bool false)]) :: ([.o a14 (cellP (some (dflt))), .o a5 (cellP (some (.ref f0))), .o a13 (cellP (some (.ref 78))), .o a12 (cellP (some (ind))), .o a7 (cellP (some (.none))), .o a10 (cellP (some (isep))), .o a6 (cellP (some (.none))), .o a4 (cellP (some (.ref f4))), .o a3 (cellP (some (.ref f3))), .o a2 (cellP (some (.ref f1))), .o a11 (cellP (some (ksep))), .o a9 (cellP (some (.bool false))), .o a1 (cellP (some (.ref f2))), .o a8 (cellP (some (.bool true))), .o a15 (cellP (some (.ref m))), .o f0 (fnP 0 [a1, a2, a3, a4, a5, a6, a7, a8, a9, a10, a11, a12, a13, a14, a15] d0 p0 c0 ct0), .o f1 (fnP 1 [a1, a2, a3, a4, a5, a6, a7, a8, a9, a10, a11, a12, a13, a14, a15] d1 p1 c1 ct1), .o f2 (fnP 2 [a1, a2, a3, a4, a5, a6, a7, a8, a9, a10, a11, a12, a13, a14, a15] d2 p2 c2 ct2), .o f3 (fnP 3 [a1, a2, a3, a4, a5, a6, a7, a8, a9, a10, a11, a12, a13, a14, a15] d3 p3 c3 ct3), .o f4 (fnP 4 [a1, a2, a3, a4, a5, a6, a7, a8, a9, a10, a11, a12, a13, a14, a15] d4 p4 c4 ct4)] ++ ([.o 181 (eqP (tabObj t5)), .o c0 (codeP (mkQual 0)), .o c1 (codeP (mkQual 1)), .o c2 (codeP (mkQual 2)), .o c3 (codeP (mkQual 3)), .o c4 (codeP (mkQual 4))] ++ σ))) ?_ (by walk_at "subp")
  refine Sw.execs_cons (Sw.s_Return ?_)
  refine' Sw.ldc E hc ?zca ?zcm ?_
  case zca => walk_at "cat"
  case zcm => walk_at "mem"
  exact ⟨_, .cons _ (.refl _), z⟩
theorem mk_body_hit {m : Addr} {ind isep ksep dflt : Value} {a1 a2 a3 a4 a5 a6 a7 a8 a9 a10 a11 a12 a13 a14 a15 : Addr} {Q : Value → SH → Prop} {cd : Nat → Addr} {tb : Array Value} (ht : TabOk cd tb) (M : MkEnv env [a1, a2, a3, a4, a5, a6, a7, a8, a9, a10, a11, a12, a13, a14, a15]) (x : ∀ e : EC, e.m = m → e.ind = ind → e.isep = isep → e.ksep = ksep → ∀ S', Grow (cdS cd tb) S' → e.Gr (ecS e ++ S') → Q (.ref (e.fn 4)) (ecS e ++ (S' ++ σ))) :
    Sw B A (execs (fnBody (topStmt 16)) env) (fun f τ => ∃ τ' : SH, τ'.Sublist τ ∧ Q (retV f) τ') NoE (.o env.locals (frameP mkKs [some (.bool false)]) :: .o a1 (cellP none) :: .o a2 (cellP none) :: .o a3 (cellP none) :: .o a4 (cellP none) :: .o a5 (cellP none) :: .o a6 (cellP (some (.none))) :: .o a7 (cellP (some (.none))) :: .o a8 (cellP (some (.bool true))) :: .o a9 (cellP (some (.bool false))) :: .o a10 (cellP (some (isep))) :: .o a11 (cellP (some (ksep))) :: .o a12 (cellP (some (ind))) :: .o a13 (cellP (some (.ref 78))) :: .o a14 (cellP (some (dflt))) :: .o a15 (cellP (some (.ref m))) :: .o 181 (eqP (tabObj tb)) :: .o (cd 0) (codeP (mkQual 0)) :: .o (cd 1) (codeP (mkQual 1)) :: .o (cd 2) (codeP (mkQual 2)) :: .o (cd 3) (codeP (mkQual 3)) :: .o (cd 4) (codeP (mkQual 4)) :: σ) := by
  have E := M.E
  have hc := M.hc
  have hk := M.hk
  rw [mkS_all]
  refine mk_ifs M (c6 := a6) (c7 := a7) (by walk_at "cat") (by walk_at "cat") (by walk_at "mem") (by walk_at "mem") ?_
  refine Sw.execs_cons (mk_exec (i := 0) mkSt_eq0 mkSt_d0 (mkSt_a0 _) mkSt_n0 (M.qual 0 (by decide)) ?_)
  refine mk_defH M (by decide) ht (by walk_at "mem") ?_
  intro f0 d0 p0 ct0
  refine Sw.subp (τ := .o env.locals (frameP mkKs [some (.bool false)]) :: .o a1 (cellP none) :: .o a2 (cellP none) :: .o a3 (cellP none) :: .o a4 (cellP none) :: .o a5 (cellP none) :: .o a6 (cellP (some (.none))) :: .o a7 (cellP (some (.none))) :: .o a8 (cellP (some (.bool true))) :: .o a9 (cellP (some (.bool false))) :: .o a10 (cellP (some (isep))) :: .o a11 (cellP (some (ksep))) :: .o a12 (cellP (some (ind))) :: .o a13 (cellP (some (.ref 78))) :: .o a14 (cellP (some (dflt))) :: .o a15 (cellP (some (.ref m))) :: .o 181 (eqP (tabObj tb)) :: .o f0 (fnP 0 [a1, a2, a3, a4, a5, a6, a7, a8, a9, a10, a11, a12, a13, a14, a15] d0 p0 (cd 0) ct0) :: .o (cd 0) (codeP (mkQual 0)) :: .o (cd 1) (codeP (mkQual 1)) :: .o (cd 2) (codeP (mkQual 2)) :: .o (cd 3) (codeP (mkQual 3)) :: .o (cd 4) (codeP (mkQual 4)) :: σ) ?_ (by walk_at "subp")
  refine' Sw.stC E hk hc ?zca ?zcu ?_
  case zca => walk_at "cat"
  case zcu => walk_at "upd"
  refine Sw.execs_cons (mk_exec (i := 1) mkSt_eq1 mkSt_d1 (mkSt_a1 _) mkSt_n1 (M.qual 1 (by decide)) ?_)
  refine mk_defH M (by decide) ht (by walk_at "mem") ?_
  intro f1 d1 p1 ct1
  refine Sw.subp (τ := .o env.locals (frameP mkKs [some (.bool false)]) :: .o a1 (cellP none) :: .o a2 (cellP none) :: .o a3 (cellP none) :: .o a4 (cellP none) :: .o a5 (cellP (some (.ref f0))) :: .o a6 (cellP (some (.none))) :: .o a7 (cellP (some (.none))) :: .o a8 (cellP (some (.bool true))) :: .o a9 (cellP (some (.bool false))) :: .o a10 (cellP (some (isep))) :: .o a11 (cellP (some (ksep))) :: .o a12 (cellP (some (ind))) :: .o a13 (cellP (some (.ref 78))) :: .o a14 (cellP (some (dflt))) :: .o a15 (cellP (some (.ref m))) :: .o 181 (eqP (tabObj tb)) :: .o f0 (fnP 0 [a1, a2, a3, a4, a5, a6, a7, a8, a9, a10, a11, a12, a13, a14, a15] d0 p0 (cd 0) ct0) :: .o f1 (fnP 1 [a1, a2, a3, a4, a5, a6, a7, a8, a9, a10, a11, a12, a13, a14, a15] d1 p1 (cd 1) ct1) :: .o (cd 0) (codeP (mkQual 0)) :: .o (cd 1) (codeP (mkQual 1)) :: .o (cd 2) (codeP (mkQual 2)) :: .o (cd 3) (codeP (mkQual 3)) :: .o (cd 4) (codeP (mkQual 4)) :: σ) ?_ (by walk_at "subp")
  refine' Sw.stC E hk hc ?zca ?zcu ?_
  case zca => walk_at "cat"
  case zcu => walk_at "upd"
  refine Sw.execs_cons (mk_exec (i := 2) mkSt_eq2 mkSt_d2 (mkSt_a2 _) mkSt_n2 (M.qual 2 (by decide)) ?_)
  refine mk_defH M (by decide) ht (by walk_at "mem") ?_
  intro f2 d2 p2 ct2
  refine Sw.subp (τ := .o env.locals (frameP mkKs [some (.bool false)]) :: .o a1 (cellP none) :: .o a2 (cellP (some (.ref f1))) :: .o a3 (cellP none) :: .o a4 (cellP none) :: .o a5 (cellP (some (.ref f0))) :: .o a6 (cellP (some (.none))) :: .o a7 (cellP (some (.none))) :: .o a8 (cellP (some (.bool true))) :: .o a9 (cellP (some (.bool false))) :: .o a10 (cellP (some (isep))) :: .o a11 (cellP (some (ksep))) :: .o a12 (cellP (some (ind))) :: .o a13 (cellP (some (.ref 78))) :: .o a14 (cellP (some (dflt))) :: .o a15 (cellP (some (.ref m))) :: .o 181 (eqP (tabObj tb)) :: .o f0 (fnP 0 [a1, a2, a3, a4, a5, a6, a7, a8, a9, a10, a11, a12, a13, a14, a15] d0 p0 (cd 0) ct0) :: .o f1 (fnP 1 [a1, a2, a3, a4, a5, a6, a7, a8, a9, a10, a11, a12, a13, a14, a15] d1 p1 (cd 1) ct1) :: .o f2 (fnP 2 [a1, a2, a3, a4, a5, a6, a7, a8, a9, a10, a11, a12, a13, a14, a15] d2 p2 (cd 2) ct2) :: .o (cd 0) (codeP (mkQual 0)) :: .o (cd 1) (codeP (mkQual 1)) :: .o (cd 2) (codeP (mkQual 2)) :: .o (cd 3) (codeP (mkQual 3)) :: .o (cd 4) (codeP (mkQual 4)) :: σ) ?_ (by walk_at "subp")
  refine' Sw.stC E hk hc ?zca ?zcu ?_
  case zca => walk_at "cat"
  case zcu => walk_at "upd"
  refine Sw.execs_cons (mk_exec (i := 3) mkSt_eq3 mkSt_d3 (mkSt_a3 _) mkSt_n3 (M.qual 3 (by decide)) ?_)
  refine mk_defH M (by decide) ht (by walk_at "mem") ?_
  intro f3 d3 p3 ct3
  refine Sw.subp (τ := .o env.locals (frameP mkKs [some (.bool false)]) :: .o a1 (cellP (some (.ref f2))) :: .o a2 (cellP (some (.ref f1))) :: .o a3 (cellP none) :: .o a4 (cellP none) :: .o a5 (cellP (some (.ref f0))) :: .o a6 (cellP (some (.none))) :: .o a7 (cellP (some (.none))) :: .o a8 (cellP (some (.bool true))) :: .o a9 (cellP (some (.bool false))) :: .o a10 (cellP (some (isep))) :: .o a11 (cellP (some (ksep))) :: .o a12 (cellP (some (ind))) :: .o a13 (cellP (some (.ref 78))) :: .o a14 (cellP (some (dflt))) :: .o a15 (cellP (some (.ref m))) :: .o 181 (eqP (tabObj tb)) :: .o f0 (fnP 0 [a1, a2, a3, a4, a5, a6, a7, a8, a9, a10, a11, a12, a13, a14, a15] d0 p0 (cd 0) ct0) :: .o f1 (fnP 1 [a1, a2, a3, a4, a5, a6, a7, a8, a9, a10, a11, a12, a13, a14, a15] d1 p1 (cd 1) ct1) :: .o f2 (fnP 2 [a1, a2, a3, a4, a5, a6, a7, a8, a9, a10, a11, a12, a13, a14, a15] d2 p2 (cd 2) ct2) :: .o f3 (fnP 3 [a1, a2, a3, a4, a5, a6, a7, a8, a9, a10, a11, a12, a13, a14, a15] d3 p3 (cd 3) ct3) :: .o (cd 0) (codeP (mkQual 0)) :: .o (cd 1) (codeP (mkQual 1)) :: .o (cd 2) (codeP (mkQual 2)) :: .o (cd 3) (codeP (mkQual 3)) :: .o (cd 4) (codeP (mkQual 4)) :: σ) ?_ (by walk_at "subp")
  refine' Sw.stC E hk hc ?zca ?zcu ?_
  case zca => walk_at "cat"
  case zcu => walk_at "upd"
  refine Sw.execs_cons (mk_exec (i := 4) mkSt_eq4 mkSt_d4 (mkSt_a4 _) mkSt_n4 (M.qual 4 (by decide)) ?_)
  refine mk_defH M (by decide) ht (by walk_at "mem") ?_
  intro f4 d4 p4 ct4
  refine Sw.subp (τ := .o env.locals (frameP mkKs [some (.bool false)]) :: .o a1 (cellP (some (.ref f2))) :: .o a2 (cellP (some (.ref f1))) :: .o a3 (cellP (some (.ref f3))) :: .o a4 (cellP none) :: .o a5 (cellP (some (.ref f0))) :: .o a6 (cellP (some (.none))) :: .o a7 (cellP (some (.none))) :: .o a8 (cellP (some (.bool true))) :: .o a9 (cellP (some (.bool false))) :: .o a10 (cellP (some (isep))) :: .o a11 (cellP (some (ksep))) :: .o a12 (cellP (some (ind))) :: .o a13 (cellP (some (.ref 78))) :: .o a14 (cellP (some (dflt))) :: .o a15 (cellP (some (.ref m))) :: .o 181 (eqP (tabObj tb)) :: .o f0 (fnP 0 [a1, a2, a3, a4, a5, a6, a7, a8, a9, a10, a11, a12, a13, a14, a15] d0 p0 (cd 0) ct0) :: .o f1 (fnP 1 [a1, a2, a3, a4, a5, a6, a7, a8, a9, a10, a11, a12, a13, a14, a15] d1 p1 (cd 1) ct1) :: .o f2 (fnP 2 [a1, a2, a3, a4, a5, a6, a7, a8, a9, a10, a11, a12, a13, a14, a15] d2 p2 (cd 2) ct2) :: .o f3 (fnP 3 [a1, a2, a3, a4, a5, a6, a7, a8, a9, a10, a11, a12, a13, a14, a15] d3 p3 (cd 3) ct3) :: .o f4 (fnP 4 [a1, a2, a3, a4, a5, a6, a7, a8, a9, a10, a11, a12, a13, a14, a15] d4 p4 (cd 4) ct4) :: .o (cd 0) (codeP (mkQual 0)) :: .o (cd 1) (codeP (mkQual 1)) :: .o (cd 2) (codeP (mkQual 2)) :: .o (cd 3) (codeP (mkQual 3)) :: .o (cd 4) (codeP (mkQual 4)) :: σ) ?_ (by walk_at "subp")
  refine' Sw.stC E hk hc ?zca ?zcu ?_
  case zca => walk_at "cat"
  case zcu => walk_at "upd"
  have z := x { m := m, ind := ind, isep := isep, ksep := ksep, dflt := dflt, ad := adOf [a1, a2, a3, a4, a5, a6, a7, a8, a9, a10, a11, a12, a13, a14, a15], fn := pick5 f0 f1 f2 f3 f4, cd := cd, doc := pick5 d0 d1 d2 d3 d4, pm := pick5 p0 p1 p2 p3 p4, ctv := pick5 ct0 ct1 ct2 ct3 ct4 } rfl rfl rfl rfl (cdS cd tb) (.inr ⟨cd, tb, ht, rfl, rfl⟩) (EC.gr_of (tb := tb) fun c hc => hc)
  rw [ecS_eq, cdS_eq] at z
  refine Sw.subp (τ := .o env.locals (frameP mkKs [some (.bool false)]) :: ([.o a14 (cellP (some (dflt))), .o a5 (cellP (some (.ref f0))), .o a13 (cellP (some (.ref 78))), .o a12 (cellP (some (ind))), .o a7 (cellP (some (.none))), .o a10 (cellP (some (isep))), .o a6 (cellP (some (.none))), .o a4 (cellP (some (.ref f4))), .o a3 (cellP (some (.ref f3))), .o a2 (cellP (some (.ref f1))), .o a11 (cellP (some (ksep))), .o a9 (cellP (some (.bool false))), .o a1 (cellP (some (.ref f2))), .o a8 (cellP (some (.bool true))), .o a15 (cellP (some (.ref m))), .o f0 (fnP 0 [a1, a2, a3, a4, a5, a6, a7, a8, a9, a10, a11, a12, a13, a14, a15] d0 p0 (cd 0) ct0), .o f1 (fnP 1 [a1, a2, a3, a4, a5, a6, a7, a8, a9, a10, a11, a12, a13, a14, a15] d1 p1 (cd 1) ct1), .o f2 (fnP 2 [a1, a2, a3, a4, a5, a6, a7, a8, a9, a10, a11, a12, a13, a14, a15] d2 p2 (cd 2) ct2), .o f3 (fnP 3 [a1, a2, a3, a4, a5, a6, a7, a8, a9, a10, a11, a12, a13, a14, a15] d3 p3 (cd 3) ct3), .o f4 (fnP 4 [a1, a2, a3, a4, a5, a6, a7, a8, a9, a10, a11, a12, a13, a14, a15] d4 p4 (cd 4) ct4)] ++ ([.o 181 (eqP (tabObj tb)), .o (cd 0) (codeP (mkQual 0)), .o (cd 1) (codeP (mkQual 1)), .o (cd 2) (codeP (mkQual 2)), .o (cd 3) (codeP (mkQual 3)), .o (cd 4) (codeP (mkQual 4))] ++ σ))) ?_ (by walk_at "subp")
  refine Sw.execs_cons (Sw.s_Return ?_)
  refine' Sw.ldc E hc ?zca ?zcm ?_
  case zca => walk_at "cat"
  case zcm => walk_at "mem"
  exact ⟨_, .cons _ (.refl _), z⟩
end
end

-- H8
section
@[reducible] def itcKs : List Str := ["self", "o", "markers", "_encoder", "int_as_string_bitcount", "_iterencode"]
theorem itc_b : okB (fnScope (encM 5)) itcKs [] false = true := by decide +kernel
theorem itc_c : noCellB (fnScope (encM 5)) = true := by decide +kernel
theorem itc_s (w : World) : (fdK w 122).scope = fnScope (encM 5) := by kernel_rfl
theorem itc_e (w : World) : (fdK w 122).body = .stmts (fnBody (encM 5)) := by kernel_rfl
theorem itc_bind (w : World) (a b : Value) : bindArgs (fdK w 122) ⟨[a, b], []⟩ = Pure.pure ((["self", "o"] : List Str).zip [a, b]) := by kernel_rfl
theorem itc_ok (w : World) : FnOk (fdK w 122) (fnBody (encM 5)) ["self", "o"] itcKs false :=
  FnOk.of (itc_s w) (itc_e w) itc_b itc_c fun as h => by
    match as, h with
    | [a, b], _ => exact itc_bind w a b
@[reducible] def itcGs : List Str := ["encode_basestring_ascii", "encode_basestring", "_make_iterencode"]
theorem glb_of {env : Env} {sc : Scope} {gs : List Str} (h1 : env.scope = sc) (h2 : env.globals = mainGlobals) (h3 : env.builtins = builtinsNs) (h : (decide (sc.kind = .function) && gs.all fun x => decide (sc.names.lookup x = some .globalImplicit) && !(x == ("__debug__" : Str))) = true) : GlbOk env gs := by
  subst h1
  obtain ⟨a, b⟩ := (Bool.and_eq_true _ _).mp h
  refine ⟨of_decide_eq_true a, h2, h3, fun x hx => ?_⟩
  have := List.all_eq_true.mp b x hx
  obtain ⟨c, d⟩ := (Bool.and_eq_true _ _).mp this
  exact ⟨of_decide_eq_true c, by simpa using d⟩
theorem itc_g (w : World) (L : Addr) : GlbOk (envF (fdK w 122) L 122) itcGs := glb_of (itc_s w) (by kernel_rfl) (by kernel_rfl) (by decide +kernel)
theorem g_eba (w : World) : nsIn (KF w) mainGlobals (Str.ofString "encode_basestring_ascii") = some (some (.ref 78)) := by kernel_rfl
theorem g_mki (w : World) : nsIn (KF w) mainGlobals (Str.ofString "_make_iterencode") = some (some (.ref 186)) := by kernel_rfl
theorem enc_isep (w : World) : findIn (KF w) (.ref 125) (Str.ofString "item_separator") = some (some (.str (Str.ofString ", ") 444)) := by kernel_rfl
section
variable {B : Bx} {A : Around} {Ψ : Value → SH → Prop} {σ τ S R T : SH} {env : Env} {Φ : Value → SH → Prop}
theorem Sw.ofSc {f : Value} {as : List Value} {kw : List (Str × Value)} (x : Sc B A (.call f ⟨as, kw⟩) (fun r τ => ∃ v, r = .ok (.ret v) ∧ Φ v τ) σ) : Sw B A (PySem.call f as kw) Φ Ψ σ := fun h g d k O =>
  wpAny_call (codeAny_mono (x h g d k O) fun r s q => by
    obtain ⟨τ, O, e, v, rfl, q⟩ := q
    exact ⟨τ, O, e, q⟩)
theorem Sw.getattr_meth {e : Bool} {c : Cl} {x dx C f : Addr} {name : Str} {ks : List Str} {vs : List (Option Value)} (mx : Cl.o x (eqP (instO C dx)) ∈ c :: σ) (md : Cl.o dx (frameP ks vs) ∈ c :: σ) (hg : plainGet (KF B.w) C name = true) (hh : hasDictIn (KF B.w) C = true)
    (ha : findIn (KF B.w) (.ref C) name = some (some (.ref f))) (hf : typeIn (KF B.w) (.ref f) = some (.type "function")) (hgf : specialIn (KF B.w) (.ref f) "__get__" = some (some (.builtin "function.__get__"))) (ht : takesIn (KF B.w) (.ref f) = some false) (hc : copiedNames.contains name = false)
    (a : NNo name ks vs) (y : ∀ q, Φ (.ref q) (c :: .o q (eqP (methodObj (.ref f) (.ref x))) :: σ)) : Sw B A (getAttr (.ref x) name e) Φ Ψ (c :: σ) := fun h g d tk O => by
  obtain ⟨od, es, ep, I, h0, h1, h2, h3⟩ := instAt O mx md
  refine get_bind (x_kin O) I (plainGet_of hg).1 (findObj_fn hh ha hgf ht hc (by rw [lookIn_of h1 h2, a.find h3])) (plainGet_of hg).2 (wpAny_call (fn_get (s := ⟨h, g, d, tk + 1, B.os⟩) (x_kin O) hf ?_))
  exact handed_on rfl (.mk (O.push2 (P := eqP (methodObj (.ref f) (.ref x))) rfl rfl) (y _))
end
end

-- H9
section
section
variable {B : Bx} {A : Around} {Ψ : Value → SH → Prop} {σ τ S R T : SH} {env : Env} {Φ : Value → SH → Prop}
theorem mk_here : FnHere B 186 (fdK B.w 186) σ := fn_here rfl rfl rfl rfl rfl rfl
theorem mk_call {m : Addr} {ind isep ksep dflt : Value} (hS : I181 S) (hr : Roomy A 1) (y : ∀ e : EC, e.m = m → e.ind = ind → e.isep = isep → e.ksep = ksep → ∀ S', Grow S S' → e.Gr (ecS e ++ S') → Φ (.ref (e.fn 4)) (ecS e ++ (S' ++ σ))) :
    Sw B A (PySem.call (.ref 186) [.ref m, dflt, .ref 78, ind, ksep, isep, .bool false, .bool false, .bool true, .none, .none]) Φ Ψ (S ++ σ) := by
  refine Sw.ofSc (Sw.callC (ks := mkKs) mk_here (mk_ok B.w) hr (mk_bind B.w _ _ _ _ _ _ _ _ _ _ _) fun L cs hcs => ?_)
  rw [mk_s, mk_fs] at hcs
  match cs, hcs with
  | [a1, a2, a3, a4, a5, a6, a7, a8, a9, a10, a11, a12, a13, a14, a15], _ =>
  have M := mk_envOk B.w L a1 a2 a3 a4 a5 a6 a7 a8 a9 a10 a11 a12 a13 a14 a15
  generalize hv : envC (fdK B.w 186) L 186 [a1, a2, a3, a4, a5, a6, a7, a8, a9, a10, a11, a12, a13, a14, a15] = env at M ⊢
  have hl : L = env.locals := by rw [← hv]
  subst hl
  refine Sw.subp (τ := .o env.locals (frameP mkKs [none]) :: .o a1 (cellP none) :: .o a2 (cellP none) :: .o a3 (cellP none) :: .o a4 (cellP none) :: .o a5 (cellP none) :: .o a6 (cellP none) :: .o a7 (cellP none) :: .o a8 (cellP none) :: .o a9 (cellP none) :: .o a10 (cellP none) :: .o a11 (cellP none) :: .o a12 (cellP none) :: .o a13 (cellP none) :: .o a14 (cellP none) :: .o a15 (cellP none) :: (S ++ σ)) (mk_start M ?_) (Subp.refl _)
  rcases hS with rfl | ⟨cd, tb, ht, rfl⟩
  · refine (mk_body_new (Q := Φ) (dflt := dflt) M y).mono (fun f τ q => ?_) fun _ _ q => q
    obtain ⟨τ', h1, h2⟩ := q
    exact ⟨τ', h1, _, rfl, h2⟩
  · refine Sw.mono (Sw.subp (mk_body_hit (Q := Φ) (dflt := dflt) ht M y) (by rw [cdS_eq]; walk_at "subp")) (fun f τ q => ?_) fun _ _ q => q
    obtain ⟨τ', h1, h2⟩ := q
    exact ⟨τ', h1, _, rfl, h2⟩
end
end

-- HA
section
section
variable {B : Bx} {A : Around} {Ψ : Value → SH → Prop} {σ τ S R T : SH} {env : Env} {Φ : Value → SH → Prop}
theorem Sw.e_List {es : List Expr} {pos : Pos} (x : Args B A Ψ env es (fun vs τ => vs.length < 100000 ∧ ∃ c τ', τ = c :: τ' ∧ ∀ l, Φ (.ref l) (c :: .o l (listP vs) :: τ')) σ) (hp : es.all plainE = true := by with_unfolding_all rfl) : Sw B A (eval (.List es pos) env) Φ Ψ σ := fun h g d k O => by
  refine wpAny_List_spliced (wpAny_mono (Sw.spliced hp x h g d k O) (fun vs s q => ?_) fun _ _ q => q)
  obtain ⟨τ, O, e, hl, c, τ', rfl, q⟩ := q
  obtain ⟨h, g, d, k, os⟩ := s
  cases e
  exact ⟨by rw [sizeLine_eq]; omega, .mk (O.push2 (P := listP vs) rfl ⟨_, rfl⟩) (q _)⟩
theorem Sw.e_Tuple {es : List Expr} {kk : Nat} {pos : Pos} (x : Args B A Ψ env es (fun vs τ => vs.length < 100000 ∧ ∃ c τ', τ = c :: τ' ∧ ∀ l, Φ (.ref l) (c :: .o l (tupP vs) :: τ')) σ) (hp : es.all plainE = true := by with_unfolding_all rfl) : Sw B A (eval (.Tuple es kk pos) env) Φ Ψ σ := fun h g d k O => by
  refine wpAny_Tuple_spliced (wpAny_mono (Sw.spliced hp x h g d k O) (fun vs s q => ?_) fun _ _ q => q)
  obtain ⟨τ, O, e, hl, c, τ', rfl, q⟩ := q
  obtain ⟨h, g, d, k, os⟩ := s
  cases e
  exact ⟨by rw [sizeLine_eq]; omega, .mk (O.push2 (P := tupP vs) rfl ⟨_, rfl⟩) (q _)⟩
local macro_rules | `(tactic| walk_at "gl") => `(tactic| with_reducible first | exact g_eba _ | exact g_mki _)
local macro_rules | `(tactic| walk_at "ga") => `(tactic| (refine Sw.e_AttrName ?_; (refine' Sw.ld ?ge ?gn ?_; (case ge => assumption); (case gn => walk_at "nat")); (refine' Sw.getattr_own (C := 125) (attr := none) ?gx ?gd (enc_pg _ _) (enc_hd _) ?ga rfl ?gat ?ghi ?_; (case gx => walk_at "mem"); (case gd => walk_at "mem"); (case ga => kernel_rfl); (case gat => walk_at "nat"); (case ghi => first | rfl | assumption))))
theorem enc_ksep (w : World) : findIn (KF w) (.ref 125) (Str.ofString "key_separator") = some (some (.str (Str.ofString ": ") 446)) := by kernel_rfl
theorem Sw.isep {x dx : Addr} {ind : Option Str} {ki : Tok} {sep : Option Value} {e : Bool} (mx : Cl.o x (eqP (instO 125 dx)) ∈ σ) (md : Cl.o dx (frameP jeKs (jeVs (indV ind ki) sep)) ∈ σ)
    (hs1 : ind = none → sep = none) (hs2 : ind ≠ none → ∃ t, sep = some (.str (Str.ofString ",") t)) (y : ∀ k, Φ (.str (sepI ind) k) σ) : Sw B A (getAttr (.ref x) (Str.ofString "item_separator") e) Φ Ψ σ := by
  cases ind with
  | none =>
    rw [hs1 rfl] at md
    exact Sw.getattr_cls mx md (enc_pg _ _) (enc_hd _) (enc_isep _) (by kernel_rfl) rfl (by decide +kernel) (.tail (.tail (.tail (.tail (.tail (.tail (.tail (.tail (.tail .head))))))))) (y _)
  | some s =>
    obtain ⟨t, ht⟩ := hs2 (by simp)
    rw [ht] at md
    exact Sw.getattr_own (attr := some (.str (Str.ofString ", ") 444)) mx md (enc_pg _ _) (enc_hd _) (enc_isep _) (by kernel_rfl) (.tail (.tail (.tail (.tail (.tail (.tail (.tail (.tail (.tail .head))))))))) rfl (y _)
theorem itc_body {x dx o : Addr} {ind : Option Str} {ki : Tok} {sep : Option Value} (E : EnvOk env itcKs []) (GE : GlbOk env itcGs) (mx : Cl.o x (eqP (instO 125 dx)) ∈ σ) (md : Cl.o dx (frameP jeKs (jeVs (indV ind ki) sep)) ∈ σ)
    (hs1 : ind = none → sep = none) (hs2 : ind ≠ none → ∃ t, sep = some (.str (Str.ofString ",") t)) (hsh : ∀ s, ind = some s → s.length ≤ 2) (hS : I181 S) (hr : Roomy A 4)
    (y : ∀ e n q L k S', EOk e ind → Grow S S' → e.Gr (ecS e ++ S') → Φ (.ref q) (.o q (genP n) :: .g n (.fresh (.func (fnBody (mkSt 4)) (envF (e.fd 4) L (e.fn 4)))) :: .o L (frameP itKs (itVs (.ref o) k none)) :: .o e.m (listP []) :: (ecS e ++ (S' ++ σ)))) :
    Sw B A (execs (fnBody (encM 5)) env) (Back Φ) NoE (.o env.locals (frameP itcKs [some (.ref x), some (.ref o), none, none, none, none]) :: (S ++ σ)) := by
  have hhi : handedIn (indV ind ki) = true := by cases ind <;> rfl
  refine Sw.execs_cons (Sw.s_If (Sw.isTrue_Attribute ?_))
  walk_at "ga"
  walk_at "py"
  refine Sw.e_List (Args.nil ⟨by decide, _, _, rfl, fun m => ?_⟩)
  walk_at "py"
  walk_at "ga"
  walk_at "py"
  walk_at "ga"
  walk_at "py"
  walk_at "ga"
  walk_at "py"
  refine Sw.e_AttrName ?_
  walk_at "py"
  refine' Sw.getattr_meth (C := 125) (f := 108) ?gx ?gd (enc_pg _ _) (enc_hd _) ?ga ?gb ?gc ?ge2 ?gf ?gno ?_
  case gx => walk_at "mem"
  case gd => walk_at "mem"
  case ga => kernel_rfl
  case gb => kernel_rfl
  case gc => kernel_rfl
  case ge2 => kernel_rfl
  case gf => decide +kernel
  case gno => exact .tail (.tail (.tail (.tail (.tail (.tail (.tail (.tail (.tail (.tail (.tail (.tail .head)))))))))))
  intro qm
  walk_at "py"
  walk_at "ga"
  walk_at "py"
  refine Sw.e_AttrName ?_
  walk_at "py"
  refine' Sw.getattr_cls (C := 125) ?gx ?gd (enc_pg _ _) (enc_hd _) (enc_ksep _) ?gb rfl ?gf ?gno ?_
  case gx => walk_at "mem"
  case gd => walk_at "mem"
  case gb => kernel_rfl
  case gf => decide +kernel
  case gno => exact .tail (.tail (.tail (.tail (.tail (.tail (.tail (.tail (.tail (.tail (.tail .head))))))))))
  walk_at "py"
  refine Sw.e_AttrName ?_
  walk_at "py"
  refine Sw.isep (x := x) (dx := dx) (ki := ki) (ind := ind) (sep := sep) (by walk_at "mem") (by walk_at "mem") hs1 hs2 fun k1 => ?_
  walk_at "py"
  walk_at "ga"
  walk_at "py"
  walk_at "ga"
  walk_at "py"
  walk_at "ga"
  walk_at "py"
  walk_at "ga"
  walk_at "py"
  refine ⟨callee_K rfl rfl, ?_⟩
  refine Sw.subp (τ := S ++ (.o env.locals (frameP itcKs [some (.ref x), some (.ref o), some (.ref m), some (.ref 78), some .none, none]) :: .o m (listP []) :: σ)) (mk_call hS (hr.le (by omega)) ?_) (by walk_at "subp")
  intro e he1 he2 he3 he4 S' hS' gr
  refine Sw.subp (τ := .o env.locals (frameP itcKs [some (.ref x), some (.ref o), some (.ref m), some (.ref 78), some .none, none]) :: .o m (listP []) :: (ecS e ++ (S' ++ σ))) ?_ (by walk_at "subp")
  walk_at "py"
  have gr' : ∀ c d, e.Gr (c :: d :: (ecS e ++ (S' ++ σ))) := fun c d => gr.mono fun z hz => by
    rcases List.mem_append.mp hz with hz | hz
    · exact .tail _ (.tail _ (List.mem_append_left _ hz))
    · exact .tail _ (.tail _ (List.mem_append_right _ (List.mem_append_left _ hz)))
  refine ⟨EC.callee (gr' _ _) (by decide), ?_⟩
  refine' Sw.callG2 (EC.here (gr' _ _) (by decide)) (it_ok e) (hr.le (by omega)) ?iv ?_
  case iv => walk_at "iv"
  intro L gn q
  refine ⟨_, .cons _ (.refl _), ?_⟩
  rw [← he1]
  exact y e gn q L _ S' ⟨⟨ki, he2⟩, ⟨k1, he3⟩, ⟨446, he4⟩, hsh⟩ hS' gr
theorem itc_here : FnHere B 122 (fdK B.w 122) σ := fn_here rfl rfl rfl rfl rfl rfl
theorem iter_call {c : Cl} {x dx o : Addr} {ind : Option Str} {ki : Tok} {sep : Option Value} (mx : Cl.o x (eqP (instO 125 dx)) ∈ c :: σ) (md : Cl.o dx (frameP jeKs (jeVs (indV ind ki) sep)) ∈ c :: σ)
    (hs1 : ind = none → sep = none) (hs2 : ind ≠ none → ∃ t, sep = some (.str (Str.ofString ",") t)) (hsh : ∀ s, ind = some s → s.length ≤ 2) (hS : I181 S) (hr : Roomy A 5)
    (y : ∀ e n q L k S', EOk e ind → Grow S S' → e.Gr (ecS e ++ S') → Φ (.ref q) (c :: .o q (genP n) :: .g n (.fresh (.func (fnBody (mkSt 4)) (envF (e.fd 4) L (e.fn 4)))) :: .o L (frameP itKs (itVs (.ref o) k none)) :: .o e.m (listP []) :: (ecS e ++ (S' ++ σ)))) :
    Sw B A (PySem.call (.ref 122) [.ref x, .ref o]) Φ Ψ (c :: (S ++ σ)) := by
  refine' Sw.callF itc_here (itc_ok B.w) (hr.le (by omega)) ?iv ?_
  case iv => walk_at "iv"
  intro L
  have E : EnvOk (envF (fdK B.w 122) L 122) itcKs [] := EnvOk.of (itc_s B.w) itc_b
  have GE := itc_g B.w L
  have hr' : Roomy (A.deeper (envF (fdK B.w 122) L 122)) 4 := hr.deeper
  generalize hv : envF (fdK B.w 122) L 122 = env at E GE hr' ⊢
  have hl : L = env.locals := by rw [← hv]
  subst hl
  refine Sw.subp (τ := .o env.locals (frameP itcKs [some (.ref x), some (.ref o), none, none, none, none]) :: (S ++ c :: σ)) (Sw.shrink (Sw.mono (itc_body (σ := c :: σ) E GE mx md hs1 hs2 hsh hS hr' (Φ := fun v τ => ∃ τ' : SH, Subp τ' τ ∧ Φ v τ') ?_) (fun f τ q => ?_) (fun _ _ q => q.elim))) (by walk_at "subp")
  · intro e n q L k S' h1 h2 h3
    exact ⟨_, by walk_at "subp", y e n q L k S' h1 h2 h3⟩
  · obtain ⟨τ', h1, τ'', h2, h3⟩ := q
    exact ⟨τ'', h2.trans (Subp.of_sub h1), τ'', .refl _, h3⟩
end
end

-- HB
section
-- texts told, whatever their tokens
inductive SA : List Value → List Str → Prop
  | nil : SA [] []
  | cons {p : Str} {k : Tok} {vs : List Value} {ps : List Str} : SA vs ps → SA (.str p k :: vs) (p :: ps)
theorem SA.snoc {p : Str} {k : Tok} : ∀ {vs : List Value} {ps : List Str}, SA vs ps → SA (vs ++ [.str p k]) (ps ++ [p])
  | _, _, .nil => .cons .nil
  | _, _, .cons h => .cons h.snoc
theorem SA.length : ∀ {vs : List Value} {ps : List Str}, SA vs ps → vs.length = ps.length
  | _, _, .nil => rfl
  | _, _, .cons h => by simp [h.length]
section
variable {B : Bx} {A : Around} {Ψ : Value → SH → Prop} {σ τ R T : SH} {env : Env} {Φ : Value → SH → Prop}
theorem Ok.sub {l : List Env} {n : Nat} {R R' : SH} (x : Ok A l n R) (h : ∀ c ∈ R, c ∈ R') : Ok A l n R' := ⟨x.hand, x.fr, x.frs.sub h, x.room⟩
theorem Sc.gen_loop {I : SH → Prop} {fin : SH} {n q m : Nat} {S : Addr} {ring : Bool} {l : List Env} {res : Value} {Q : Result → SH → Prop} (hA : Ok A.in1 l (n + 1) R) (mq : Cl.o q (genP m) ∈ R) (hT : ∀ x ∈ T, x ∈ R) :
    ∀ (ps : List Str) (gs : GenState) (σi Sh : SH) (vs : List Value) (dn : List Str), SA vs dn → Pend B I T n ring fin ps gs σi → I Sh → dn.length + ps.length < 1000 →
      (ring = false → ∀ vs S', SA vs (dn ++ ps) → I S' → Q (.ok (.ret res)) (.o S (listP vs) :: (fin ++ (S' ++ R)))) → (ring = true → ∀ x T' S', I S' → Q (.error (.ref x)) (.o x (excP "ValueError" (.ref T')) :: .o T' (tbP .none) :: (S' ++ R))) →
      Sc B A (.builtin "list.extend.loop" ⟨[.ref S, .ref q, res], []⟩) Q (.o S (listP vs) :: .g m gs :: (σi ++ (Sh ++ R))) := by
  intro ps
  induction ps with
  | nil =>
    intro gs σi Sh vs dn hv hp hI hl hok herr
    refine Sc.builtin F.entry_extend_loop F.plain_extend_loop ?_
    show Sw B A.in1 (pyNext (.ref q) >>= _) _ _ _
    refine Sw.bind ?_
    refine Sw.shrink (Sw.subp (Sw.next_pend (R := .o S (listP vs) :: R) hp (hA.sub fun c hc => .tail _ hc) (.tail _ mq) (fun x hx => .tail _ (hT x hx)) hI ?_) (by walk_at "subp"))
    cases ring with
    | false =>
      intro S' hI'
      refine ⟨.o S (listP vs) :: (fin ++ (S' ++ R)), by walk_at "subp", ?_⟩
      exact Sw.pure (hok rfl vs S' (by simpa using hv) hI')
    | true =>
      intro x T' S' hI'
      exact ⟨_, by walk_at "subp", herr rfl x T' S' hI'⟩
  | cons p ps ih =>
    intro gs σi Sh vs dn hv hp hI hl hok herr
    refine Sc.builtin F.entry_extend_loop F.plain_extend_loop ?_
    show Sw B A.in1 (pyNext (.ref q) >>= _) _ _ _
    refine Sw.bind ?_
    refine Sw.shrink (Sw.subp (Sw.next_pend (R := .o S (listP vs) :: R) hp (hA.sub fun c hc => .tail _ hc) (.tail _ mq) (fun x hx => .tail _ (hT x hx)) hI ?_) (by walk_at "subp"))
    intro tok gs' σ' S' hI' hp'
    refine ⟨.o S (listP vs) :: .g m gs' :: (σ' ++ (S' ++ R)), by walk_at "subp", ?_⟩
    show Sw B A.in1 (updateSeq S (·.push (.str p tok)) >>= _) _ _ _
    refine Sw.bind (Sw.pushL .head (by rw [hv.length]; simp at hl; omega) ?_)
    refine Sw.pure ⟨plainId_quiet F.plain_extend_loop _, ?_⟩
    refine ih gs' σ' S' _ (dn ++ [p]) hv.snoc hp' hI' (by simp at hl ⊢; omega) (fun hr vs S' h => ?_) herr
    exact hok hr vs S' (by simpa using h)
theorem gen_hint {q m : Nat} {Φ : Bool → SH → Prop} (mq : Cl.o q (genP m) ∈ σ) (x : Φ true σ) : Sw B A (Builtin.List.listLengthHint (.ref q)) Φ Ψ σ := fun h g d k O => by
  have hT := (isGen_of (O.get mq)).typeIs (s := ⟨h, g, d, k, B.os⟩)
  unfold Builtin.List.listLengthHint
  refine wpAny_bind (wpAny_specialOf hT F.gen_no_len ?_)
  dsimp only
  refine wpAny_ite_split (fun hab => absurd hab (by decide +kernel)) (fun _ => ?_)
  simp only [Bool.false_eq_true, if_false, Option.isSome_none]
  refine wpAny_bind (wpAny_specialOf hT F.gen_no_hint ?_)
  exact wpAny_pure (.mk O x)
end
end

-- HC
section
section
variable {B : Bx} {A : Around} {Ψ : Value → SH → Prop} {σ τ R T : SH} {env : Env} {Φ : Value → SH → Prop}
theorem Ok.le3 {l : List Env} {n m : Nat} (x : Ok A l n R) (h : m ≤ n) : Ok A l m R := ⟨x.hand, x.fr, x.frs, x.room.le h⟩
theorem Sw.updL {l : Addr} {vs ws : List Value} {f : Array Value → Array Value} {Φ : Unit → SH → Prop} (u : Upd l (listP vs) (listP ws) σ τ) (hf : f vs.toArray = ws.toArray) (hv : vs.length < 100000) (hl : ws.length < 100000) (x : Φ () τ) : Sw B A (updateSeq l f) Φ Ψ σ := fun h g d k O => by
  obtain ⟨o, ho, n, rfl⟩ := O.get u.mem
  unfold updateSeq
  refine wpAny_bind (wpAny_load ho ?_)
  refine wpAny_bind (wpAny_update ho ?_)
  have O' := O.update u (f := Obj.mapSeq f) (fun o hp => by
    obtain ⟨n, rfl⟩ := hp
    refine ⟨rfl, ?_⟩
    show ∃ m, _ = _
    simp only [Obj.mapSeq, hf]
    exact ⟨_, rfl⟩)
  obtain ⟨o', ho', n', rfl⟩ := O'.get u.mem'
  exact wpAny_lookBehind ho' (pastItsLine_seq (by rw [sizeLine_eq]; simp; omega)) (.mk O' x)
theorem Sw.listItems {l : Addr} {vs : List Value} {Φ : Array Value → SH → Prop} (m : Cl.o l (listP vs) ∈ σ) (x : Φ vs.toArray σ) : Sw B A (Builtin.List.listItems (.ref l)) Φ Ψ σ := fun h g d k O => by
  obtain ⟨o, ho, n, rfl⟩ := O.get m
  unfold Builtin.List.listItems
  exact wpAny_bind (wpAny_seqItems ho rfl (wpAny_pure (.mk O x)))
theorem Sw.letGo {removed keep : List Value} {Φ : Unit → SH → Prop} (x : Φ () σ) : Sw B A (PySem.letGo removed keep) Φ Ψ σ := fun h g d k O => wpAny_letGo (.mk O x)
theorem Sw.typeOf_gen {q m : Nat} (mq : Cl.o q (genP m) ∈ σ) (x : Φ (.type "generator") σ) : Sw B A (typeOf (.ref q)) Φ Ψ σ := fun h g d k O => wpAny_typeOf ((isGen_of (O.get mq)).typeIs (s := ⟨h, g, d, k, B.os⟩)) (.mk O x)
-- list(a generator that tells ps)
theorem Sw.list_pend {I : SH → Prop} {fin Sh σi : SH} {n q m : Nat} {ring : Bool} {l : List Env} {ps : List Str} {gs : GenState} (hA : Ok A l (n + 4) R) (mq : Cl.o q (genP m) ∈ R) (hT : ∀ x ∈ T, x ∈ R) (hp : Pend B I T n ring fin ps gs σi) (hI : I Sh) (hl : ps.length < 1000)
    (hok : ring = false → ∀ S vs S', SA vs ps → I S' → Φ (.ref S) (.o S (listP vs) :: (fin ++ (S' ++ R)))) (herr : ring = true → ∀ x T' S', I S' → Ψ (.ref x) (.o x (excP "ValueError" (.ref T')) :: .o T' (tbP .none) :: (S' ++ R))) :
    Sw B A (PySem.call (.type "list") [.ref q]) Φ Ψ (.g m gs :: (σi ++ (Sh ++ R))) := fun h g d k O => by
  have hq := O.get (.tail _ (List.mem_append_right _ (List.mem_append_right _ mq)))
  refine callType_codes (Q₁ := fun obj s₁ => obj = .ref h.objs.size ∧ s₁ = ⟨h.push { cls := .type "list", data := .seq #[] }, g, d, k, B.os⟩) F.called_list (F.typeCall_list_1 _) F.entry_list_init (code_list_new _ ⟨rfl, rfl⟩) fun obj s₁ h₁ => ?_
  obtain ⟨rfl, rfl⟩ := h₁
  refine ⟨⟨_, Heap.get?_push_size _ rfl, rfl⟩, F.args_list_init_2 _ _, ?_⟩
  have O1 := O.push (o := { cls := .type "list", data := .seq #[] }) rfl (P := listP []) ⟨0, rfl⟩
  have key : Sw B A.in1.in1 (Builtin.«list.__init__» ⟨[.ref h.objs.size, .ref q], []⟩) (fun fin' τ => match fin' with
      | .done f => False
      | .again c' => c'.quiet = true ∧ Sc B A.in1 c' (fun r τ => match r with | .ok (.ret v) => v = .none ∧ Φ (.ref h.objs.size) τ | .ok _ => False | .error e => Ψ e τ) τ) Ψ (.o h.objs.size (listP []) :: .g m gs :: (σi ++ (Sh ++ R))) := by
    show Sw B A.in1.in1 (do let old ← Builtin.List.listItems (.ref h.objs.size); Builtin.List.listUpdate (.ref h.objs.size) (fun _ => #[]); PySem.letGo old.toList.reverse; Builtin.List.listExtendWith (.ref h.objs.size) (.ref q) .none) _ _ _
    refine Sw.bind (Sw.listItems (vs := []) (by walk_at "mem") ?_)
    refine Sw.bind (Sw.updL (vs := []) (ws := []) .head rfl (by decide) (by decide) ?_)
    refine Sw.bind (Sw.letGo ?_)
    have mq' : Cl.o q (genP m) ∈ Cl.o h.objs.size (listP []) :: Cl.g m gs :: (σi ++ (Sh ++ R)) := .tail _ (.tail _ (List.mem_append_right _ (List.mem_append_right _ mq)))
    refine Sw.look fun h2 g2 O2 => ?_
    unfold Builtin.List.listExtendWith
    refine Sw.bind (Sw.typeOf_gen mq' ?_)
    have hne : (h.objs.size == q) = false := by
      obtain ⟨oq, hq1, hq2⟩ := hq
      have l0 : @LT.lt Nat _ q h.objs.size := Heap.lt_size hq1
      exact beq_false_of_ne (Nat.ne_of_gt l0)
    have h1 : Builtin.List.listSameRef (.ref h.objs.size) (.ref q) = false := hne
    have h2' : (Value.type "generator" == Value.type "list") = false := by decide
    have h3 : (Value.type "generator" == Value.type "tuple") = false := by decide
    simp only [h1, h2', h3, Bool.or_false, Bool.false_eq_true, if_false]
    refine Sw.bind (Sw.iter_gen mq' ?_)
    refine Sw.bind (Sw.holding (gen_hint mq' ?_))
    simp only [Bool.true_or, if_true]
    refine Sw.bind (Sw.rule (Sw.bind ?_))
    unfold Builtin.List.listTouch
    refine Sw.bind (Sw.updL (vs := []) (ws := [.none]) .head rfl (by decide) (by decide) ?_)
    refine Sw.updL (vs := [.none]) (ws := []) .head rfl (by decide) (by decide) ?_
    refine Sw.pure ⟨plainId_quiet F.plain_extend_loop _, ?_⟩
    refine Sc.gen_loop (A := A.in1) (hA.in1.in1.le3 (by omega)) mq hT ps gs σi Sh [] [] .nil hp hI (by simpa using hl) (fun hr vs S' h h' => ⟨rfl, ?_⟩) (fun hr x T' S' h' => herr hr x T' S' h')
    exact hok hr _ vs S' (by simpa using h) h'
  refine wpAny_mono (key _ g d k O1) (fun fin' s q => ?_) fun e s q => ?_
  · obtain ⟨τ, O2, e2, q⟩ := q
    obtain ⟨h2, g2, d2, k2, os2⟩ := s
    cases e2
    cases fin' with
    | done f => exact q.elim
    | again c' =>
      refine ⟨q.1, codeAny_mono (q.2 h2 g2 d2 k2 O2) fun r s q => ?_⟩
      obtain ⟨τ, O3, e3, q⟩ := q
      cases r with
      | error e => exact ⟨τ, O3, e3, q⟩
      | ok f =>
        cases f with
        | ret v => exact ⟨q.1, τ, O3, e3, q.2⟩
        | _ => exact q.elim
  · exact q
end
end

-- HD
section
@[reducible] def ttKs : List Str := ["self", "o", "chunks"]
theorem tt_b : okB (fnScope (encM 4)) ttKs [] false = true := by decide +kernel
theorem tt_c : noCellB (fnScope (encM 4)) = true := by decide +kernel
theorem tt_s (w : World) : (fdK w 115).scope = fnScope (encM 4) := by kernel_rfl
theorem tt_e (w : World) : (fdK w 115).body = .stmts (fnBody (encM 4)) := by kernel_rfl
theorem tt_bind (w : World) (a b : Value) : bindArgs (fdK w 115) ⟨[a, b], []⟩ = Pure.pure ((["self", "o"] : List Str).zip [a, b]) := by kernel_rfl
theorem tt_ok (w : World) : FnOk (fdK w 115) (fnBody (encM 4)) ["self", "o"] ttKs false :=
  FnOk.of (tt_s w) (tt_e w) tt_b tt_c fun as h => by
    match as, h with
    | [a, b], _ => exact tt_bind w a b
@[reducible] def ttGs : List Str := ["string_types", "isinstance", "list", "tuple"]
theorem tt_g (w : World) (L : Addr) : GlbOk (envF (fdK w 115) L 115) ttGs := glb_of (tt_s w) (by kernel_rfl) (by kernel_rfl) (by decide +kernel)
local macro_rules | `(tactic| walk_at "gl") => `(tactic| with_reducible first | exact g_strs _)
local macro_rules | `(tactic| walk_at "bl") => `(tactic| with_reducible first | exact b_isinstance | exact b_list | exact b_tuple)
section
variable {B : Bx} {A : Around} {Ψ : Value → SH → Prop} {σ τ S R T : SH} {env : Env} {Φ : Value → SH → Prop}
-- a call whose body may raise
theorem Sw.callFE {fd : FuncData} {body : List Stmt} {ps ks : List Str} {as : List Value} {vs : List (Option Value)} {a : Addr} {Φ : Value → SH → Prop} {l : List Env} (H : FnHere B a fd σ) (F : FnOk fd body ps ks false) (hA : Ok A l 1 R) (iv : IV ps as ks vs)
    (x : ∀ L, Sw B (A.deeper (envF fd L a)) (execs body (envF fd L a)) (Back Φ) (fun e τ => ∃ x T ρ, e = .ref x ∧ τ = .o x (excP "ValueError" (.ref T)) :: .o T (tbP .none) :: ρ ∧ (∃ vs, Cl.o L (frameP ks vs) ∈ ρ) ∧ (∀ c ∈ R, c ∈ ρ) ∧ ∀ T', ∃ τ', Subp τ' (.o x (excP "ValueError" (.ref T')) :: .o T' (tbP .none) :: ρ) ∧ Ψ (.ref x) τ') (.o L (frameP ks vs) :: σ))
    (hk : fd.scope.kind ≠ .module) (hl : as.length = ps.length := by rfl) : Sw B A (PySem.call (.ref a) as) Φ Ψ σ := fun h g d k O => by
  obtain ⟨⟨o, ho, hd⟩, hcd⟩ := H h g O
  refine wpAny_call (codeAny_call_function hA.room.lt ho hd F.co F.gen F.body hcd ?_)
  rw [F.bind as hl]
  refine wpAny_pure ?_
  refine newEnv_own F hl iv O fun h' k' O' => ⟨O'.noLimit, codeAny_func ?_⟩
  refine wpAny_mono (x h.objs.size h' g d k' O') (fun f s q => ?_) fun e s q => ?_
  · obtain ⟨τ, O, e, τ', hs, q⟩ := q
    exact ⟨τ', O.sublist hs, e, q⟩
  · obtain ⟨τ, O2, e2, x, T, ρ, rfl, rfl, ⟨vs, hm⟩, hR, q⟩ := q
    obtain ⟨h2, g2, d2, k2, os2⟩ := s
    cases e2
    have hfr : (A.deeper (envF fd h.objs.size a)).frames = some (envF fd h.objs.size a :: l) := by
      show A.frames.map _ = _
      rw [hA.fr]; rfl
    refine wpAny_mono (Sw.leaving_next (B := B) (Ψ := NoE) (Φ := fun _ τ => ∃ τ', Subp τ' τ ∧ Ψ (.ref x) τ') hfr (Frs.cons (hA.frs.sub hR) hk rfl hm) rfl q h2 g2 d2 k2 O2) (fun _ s q => ?_) fun _ _ q => q.none
    obtain ⟨τ, O3, e3, τ', hs, q⟩ := q
    exact ⟨τ', O3.subp hs, e3, q⟩
theorem isi_thing_str {t : Th} {i : Nat} (m : Cl.o (t.ad i) (t.word B.w i) ∈ σ) : Isi B (.ref (t.ad i)) (.type "str") false σ := by
  unfold Th.word at m
  cases h : t.isD i with
  | true => rw [h] at m; exact isi_dict_str m
  | false => rw [h] at m; exact isi_list_str m
local macro_rules | `(tactic| x_close) => `(tactic| first | exact x_endB0 (by assumption) (by kernel_rfl) (by assumption) | exact x_endB (by assumption) (by assumption) (by kernel_rfl) (by assumption))
theorem isi_gen_lt {q n l : Addr} (mq : Cl.o q (genP n) ∈ σ) (ml : Cl.o l (tupP [.type "list", .type "tuple"]) ∈ σ) : Isi B (.ref q) (.ref l) false σ := fun A Ψ Φ hh hd hu x h g d tk O => by
  refine wpAny_wide hh hd hu ?_
  have KX := x_kin O
  obtain ⟨ol, e1, nl, rfl⟩ := O.get ml
  obtain ⟨oq, e2, n1, n2, rfl⟩ := O.get mq
  show wpAny (model prog B.w) _ _ _ _ _
  x_run
theorem SA.strs : ∀ {vs : List Value} {ps : List Str}, SA vs ps → ∃ l : List (Str × Tok), vs = strValues l ∧ l.map (·.1) = ps
  | _, _, .nil => ⟨[], rfl, rfl⟩
  | _, _, .cons (p := p) (k := k) h => let ⟨l, h1, h2⟩ := h.strs; ⟨(p, k) :: l, by rw [h1]; rfl, by simp [h2]⟩
theorem Sw.joinL {l : Addr} {vs : List Value} {ps : List Str} {s : Str} {k : Tok} {Φ : Value → SH → Prop} (m : Cl.o l (listP vs) ∈ σ) (hs : SA vs ps) (hok : PySem.JoinOk s ps = true) (x : ∀ k, Φ (.str (PySem.Txt.join s ps) k) σ) :
    Sw B A (PySem.call (.builtin "str.join") [.str s k, .ref l]) Φ Ψ σ := fun h g d tk O => by
  obtain ⟨o, ho, n, rfl⟩ := O.get m
  obtain ⟨L, rfl, h2⟩ := hs.strs
  exact SC.join (D := l) (l := L) ⟨_, ho, rfl, n, rfl⟩ h2 hok fun t' k' => .mk O (x t')
end
end

-- HE
section
local macro_rules | `(tactic| walk_at "gl") => `(tactic| with_reducible first | exact g_strs _)
local macro_rules | `(tactic| walk_at "bl") => `(tactic| with_reducible first | exact b_isinstance | exact b_list | exact b_tuple)
section
variable {B : Bx} {A : Around} {Ψ : Value → SH → Prop} {σ τ S R T Sh : SH} {env : Env} {Φ : Value → SH → Prop} {t : Th} {l : List Env}
local macro_rules | `(tactic| walk_at "ga") => `(tactic| (refine Sw.e_AttrName ?_; (refine' Sw.ld ?ge ?gn ?_; (case ge => assumption); (case gn => walk_at "nat")); (refine' Sw.getattr_own (C := 125) (attr := none) ?gx ?gd (enc_pg _ _) (enc_hd _) ?ga rfl ?gat ?ghi ?_; (case gx => walk_at "mem"); (case gd => walk_at "mem"); (case ga => kernel_rfl); (case gat => walk_at "nat"); (case ghi => first | rfl | assumption))))
theorem tt_body {x dx : Addr} {i : Nat} {ind : Option Str} {ki : Tok} {sep : Option Value} (E : EnvOk env ttKs []) (GE : GlbOk env ttGs) (mx : Cl.o x (eqP (instO 125 dx)) ∈ σ) (md : Cl.o dx (frameP jeKs (jeVs (indV ind ki) sep)) ∈ σ)
    (hs1 : ind = none → sep = none) (hs2 : ind ≠ none → ∃ t, sep = some (.str (Str.ofString ",") t)) (hsh : ∀ s, ind = some s → s.length ≤ 2) (hS : I181 S) (hSh : I73 Sh) (hh : A.handled = none) (hfr : A.frames = some (env :: l)) (hr : Roomy A 50) (hf : env.frame = some env.locals)
    (hF : Frs l σ) (to : t.Ok) (hsz : t.sz ≤ 3) (hi : i < t.sz) (hth : ∀ i, i < t.sz → Cl.o (t.ad i) (t.word B.w i) ∈ σ) (hj : PySem.JoinOk (Str.ofString "") (told t ind 4 i 0 []).1 = true) (hln : (told t ind 4 i 0 []).1.length < 1000)
    (y : (told t ind 4 i 0 []).2 = false → ∀ k S' Sh', Grow S S' → I73 Sh' → Φ (.str (PySem.Txt.join (Str.ofString "") (told t ind 4 i 0 []).1) k) (S' ++ (Sh' ++ σ)))
    (z : (told t ind 4 i 0 []).2 = true → ∀ x' T' vs S' Sh' ρ, Grow S S' → I73 Sh' → Ψ (.ref x') (.o x' (excP "ValueError" (.ref T')) :: .o T' (tbP .none) :: .o env.locals (frameP ttKs vs) :: (ρ ++ (S' ++ (Sh' ++ σ))))) :
    Sw B A (execs (fnBody (encM 4)) env) (Back Φ) Ψ (.o env.locals (frameP ttKs [some (.ref x), some (.ref (t.ad i)), none]) :: (S ++ (Sh ++ σ))) := by
  have hthi := hth i hi
  refine Sw.execs_cons (Sw.s_If ?_)
  walk_at "py"
  refine ⟨trivial, isi_thing_str (t := t) (i := i) (by walk_at "mem") _ _ _ hh hr.d hr.u ?_⟩
  walk_at "py"
  refine Sw.e_Call_Own ?_
  walk_at "py"
  refine' Sw.getMethod_inst (C := 125) (f := 122) ?gx ?gd (enc_pg _ _) ?ga ?gb ?gno ?_
  case gx => walk_at "mem"
  case gd => walk_at "mem"
  case ga => kernel_rfl
  case gb => kernel_rfl
  case gno => exact .tail (.tail (.tail (.tail (.tail (.tail (.tail (.tail (.tail (.tail (.tail (.tail (.tail .head))))))))))))
  refine ⟨rfl, (fun _ h => by cases h), ?_⟩
  walk_at "py"
  refine ⟨callee_K rfl rfl, ?_⟩
  refine iter_call (x := x) (dx := dx) (ki := ki) (ind := ind) (sep := sep) (by walk_at "mem") (by walk_at "mem") hs1 hs2 hsh hS (hr.le (by omega)) ?_
  intro e n q L k S' eo hgr gr
  walk_at "py"
  refine Sw.e_Tuple ?_
  walk_at "py"
  refine ⟨by decide, _, _, rfl, fun tl => ?_⟩
  refine ⟨trivial, isi_gen_lt (q := q) (n := n) (l := tl) (by walk_at "mem") (by walk_at "mem") _ _ _ hh hr.d hr.u ?_⟩
  walk_at "py"
  refine ite_pos rfl ?_
  walk_at "py"
  refine ⟨trivial, ?_⟩
  have gr2 : e.Gr (ecS e ++ (S' ++ σ)) := gr.mono fun z hz => by
    rcases List.mem_append.mp hz with hz | hz
    · exact List.mem_append_left _ hz
    · exact List.mem_append_right _ (List.mem_append_left _ hz)
  have W : Wk e t B.w (ecS e ++ (S' ++ σ)) := ⟨gr2, fun j hj => List.mem_append_right _ (List.mem_append_right _ (hth j hj))⟩
  have em := root_emits (L := L) (k := k) W eo to hsz hi
  simp only [refs, List.map_nil] at em
  refine Sw.shrink (Sw.subp (Sw.list_pend (n := 40) (l := env :: l) (q := q) (m := n) (Sh := Sh) (R := .o env.locals (frameP ttKs [some (.ref x), some (.ref (t.ad i)), some (.ref q)]) :: .o tl (tupP [.type "list", .type "tuple"]) :: .o q (genP n) :: (ecS e ++ (S' ++ σ))) ?a1 (.tail _ (.tail _ (.head _))) (fun c hc => .tail _ (.tail _ (.tail _ hc))) ⟨_, _, _, .inl ⟨rfl, rfl, rfl⟩, em⟩ hSh hln ?a2 ?a3) (by walk_at "subp"))
  case a1 => exact ⟨hh, hfr, Frs.cons (hF.sub fun c hc => .tail _ (.tail _ (.tail _ (List.mem_append_right _ (List.mem_append_right _ hc))))) (by rw [E.kind]; decide) hf (.head _), hr.le (by omega)⟩
  case a2 =>
    intro hrg ls vs Sh' hsa hsh'
    refine ⟨.o env.locals (frameP ttKs [some (.ref x), some (.ref (t.ad i)), some (.ref q)]) :: .o ls (listP vs) :: (S' ++ (Sh' ++ σ)), by walk_at "subp", ?_⟩
    walk_at "py"
    walk_at "ga"
    walk_at "py"
    refine Sw.e_Call_Meth F.plainAttrs_str F.slot_str_join F.type_str_join ?_
    walk_at "py"
    refine ⟨MethOn.str, ?_⟩
    walk_at "py"
    refine Sw.joinL (l := ls) (by walk_at "mem") hsa hj ?_
    intro kk
    refine ⟨_, .cons _ (.cons _ (.refl _)), ?_⟩
    exact y hrg kk S' Sh' hgr hsh'
  case a3 =>
    intro hrg x' T' Sh' hsh'
    refine ⟨.o x' (excP "ValueError" (.ref T')) :: .o T' (tbP .none) :: .o env.locals (frameP ttKs [some (.ref x), some (.ref (t.ad i)), some (.ref q)]) :: (ecS e ++ (S' ++ (Sh' ++ σ))), by walk_at "subp", ?_⟩
    exact z hrg x' T' _ S' Sh' (ecS e) hgr hsh'
end
end

-- HF
section
section
variable {B : Bx} {A : Around} {Ψ : Value → SH → Prop} {σ τ S R T Sh : SH} {env : Env} {Φ : Value → SH → Prop} {t : Th} {l : List Env}
theorem tt_here : FnHere B 115 (fdK B.w 115) σ := fn_here rfl rfl rfl rfl rfl rfl
theorem text_call {c : Cl} {x dx : Addr} {i : Nat} {ind : Option Str} {ki : Tok} {sep : Option Value} (mx : Cl.o x (eqP (instO 125 dx)) ∈ c :: σ) (md : Cl.o dx (frameP jeKs (jeVs (indV ind ki) sep)) ∈ c :: σ)
    (hs1 : ind = none → sep = none) (hs2 : ind ≠ none → ∃ t, sep = some (.str (Str.ofString ",") t)) (hsh : ∀ s, ind = some s → s.length ≤ 2) (hS : I181 S) (hSh : I73 Sh) (hA : Ok A l 51 (c :: σ))
    (to : t.Ok) (hsz : t.sz ≤ 3) (hi : i < t.sz) (hth : ∀ i, i < t.sz → Cl.o (t.ad i) (t.word B.w i) ∈ c :: σ) (hj : PySem.JoinOk (Str.ofString "") (told t ind 4 i 0 []).1 = true) (hln : (told t ind 4 i 0 []).1.length < 1000)
    (y : (told t ind 4 i 0 []).2 = false → ∀ k S' Sh', Grow S S' → I73 Sh' → Φ (.str (PySem.Txt.join (Str.ofString "") (told t ind 4 i 0 []).1) k) (c :: (S' ++ (Sh' ++ σ))))
    (z : (told t ind 4 i 0 []).2 = true → ∀ x' T' S' Sh', Grow S S' → I73 Sh' → Ψ (.ref x') (.o x' (excP "ValueError" (.ref T')) :: .o T' (tbP .none) :: c :: (S' ++ (Sh' ++ σ)))) :
    Sw B A (PySem.call (.ref 115) [.ref x, .ref (t.ad i)]) Φ Ψ (c :: (S ++ (Sh ++ σ))) := by
  refine' Sw.callFE (l := l) (R := c :: σ) tt_here (tt_ok B.w) ⟨hA.hand, hA.fr, hA.frs, hA.room.le (by omega)⟩ ?iv ?_ (by rw [tt_s]; decide)
  case iv => walk_at "iv"
  intro L
  have E : EnvOk (envF (fdK B.w 115) L 115) ttKs [] := EnvOk.of (tt_s B.w) tt_b
  have GE := tt_g B.w L
  have hr' : Roomy (A.deeper (envF (fdK B.w 115) L 115)) 50 := hA.room.deeper
  have hh' : (A.deeper (envF (fdK B.w 115) L 115)).handled = none := hA.hand
  have hfr' : (A.deeper (envF (fdK B.w 115) L 115)).frames = some (envF (fdK B.w 115) L 115 :: l) := by
    show A.frames.map _ = _
    rw [hA.fr]; rfl
  have hf' : (envF (fdK B.w 115) L 115).frame = some (envF (fdK B.w 115) L 115).locals := rfl
  generalize hv : envF (fdK B.w 115) L 115 = env at E GE hr' hh' hfr' hf' ⊢
  have hl : L = env.locals := by rw [← hv]
  subst hl
  refine Sw.subp (τ := .o env.locals (frameP ttKs [some (.ref x), some (.ref (t.ad i)), none]) :: (S ++ (Sh ++ (c :: σ)))) (Sw.shrink (Sw.mono (tt_body (l := l) (σ := c :: σ) (t := t) (i := i) E GE mx md hs1 hs2 hsh hS hSh hh' hfr' hr' hf' hA.frs to hsz hi hth hj hln (Φ := fun v τ => ∃ τ' : SH, Subp τ' τ ∧ Φ v τ')
    (Ψ := fun e τ => ∃ τ' : SH, Subp τ' τ ∧ ∃ x T ρ, e = .ref x ∧ τ' = .o x (excP "ValueError" (.ref T)) :: .o T (tbP .none) :: ρ ∧ (∃ vs, Cl.o env.locals (frameP ttKs vs) ∈ ρ) ∧ (∀ z ∈ c :: σ, z ∈ ρ) ∧ ∀ T', ∃ τ', Subp τ' (.o x (excP "ValueError" (.ref T')) :: .o T' (tbP .none) :: ρ) ∧ Ψ (.ref x) τ') ?_ ?_) (fun f τ q => ?_) (fun _ _ q => q))) (by walk_at "subp")
  · intro hrg k S' Sh' h1 h2
    exact ⟨_, by walk_at "subp", y hrg k S' Sh' h1 h2⟩
  · intro hrg x' T' vs S' Sh' ρ h1 h2
    refine ⟨_, .refl _, x', T', _, rfl, rfl, ⟨vs, .head _⟩, fun w hw => .tail _ (List.mem_append_right _ (List.mem_append_right _ (List.mem_append_right _ hw))), fun T2 => ⟨.o x' (excP "ValueError" (.ref T2)) :: .o T2 (tbP .none) :: c :: (S' ++ (Sh' ++ σ)), by walk_at "subp", z hrg x' T2 S' Sh' h1 h2⟩⟩
  · obtain ⟨τ', h1, τ'', h2, h3⟩ := q
    exact ⟨τ'', h2.trans (Subp.of_sub h1), τ'', .refl _, h3⟩
end
end

-- Z1
section
@[reducible] def lawTabs : List (Addr × Addr) := [(185, 181), (70, 66), (77, 73)]
def lawSt : Stmt := topStmt 23
@[reducible] def lawKs : List Str := ["script", "rows", "draws", "j", "parts", "part", "v", "turn", "roots", "left", "r", "runs", "told", "ended", "given", "order", "steps", "walks", "good", "text", "ring", "thing"]
@[reducible] def lawFs : List Str := ["writer", "indent", "i", "kinds", "things", "size", "x"]
theorem law_fs : (cellN (fnScope lawSt).names).reverse = lawFs := by decide +kernel
theorem law_b : okB (fnScope lawSt) lawKs lawFs false = true := by decide +kernel
theorem law_s (w : World) : (fdK w 218).scope = fnScope lawSt := by kernel_rfl
theorem law_e (w : World) : (fdK w 218).body = .stmts (fnBody lawSt) := by kernel_rfl
theorem law_clos (w : World) : (fdK w 218).closure = [] := by kernel_rfl
theorem law_bind (w : World) (a : Value) : bindArgs (fdK w 218) ⟨[a], []⟩ = Pure.pure [(Str.ofString "script", a)] := by kernel_rfl
theorem law_ok (w : World) : FnOkC (fdK w 218) (fnBody lawSt) false := ⟨by kernel_rfl, by kernel_rfl, law_e w, law_clos w⟩
theorem law_here {B : Bx} {σ : SH} : FnHere B 218 (fdK B.w 218) σ := fn_here rfl rfl rfl rfl rfl rfl
@[reducible] def lawTS (p1 p2 p3 : Array Value) : SH := [.o 181 (eqP (tabObj p1)), .o 66 (eqP (tabObj p2)), .o 73 (eqP (tabObj p3))]
theorem law_env (w : World) (L : Addr) (cs : List Addr) : EnvOk (envC (fdK w 218) L 218 cs) lawKs lawFs := EnvOk.of (law_s w) law_b
theorem law_cells (w : World) (L : Addr) (cs : List Addr) : (envC (fdK w 218) L 218 cs).cells = lawFs.zip cs := by
  show (cellN (fdK w 218).scope.names).reverse.zip cs = _
  rw [law_s, law_fs]
-- what is to be shown of law's body
def LawMain : Prop := ∀ (B : Bx) (l : Addr) (vals : List Value) (ns : List Int) (L c1 c2 c3 c4 c5 c6 c7 : Addr), B.G.IsList l vals.toArray → IntsAre vals ns → ns.length ≤ 63 →
  Sw B (callerA.deeper (envC (fdK B.w 218) L 218 [c1, c2, c3, c4, c5, c6, c7])) (execs (fnBody lawSt) (envC (fdK B.w 218) L 218 [c1, c2, c3, c4, c5, c6, c7]))
    (fun f τ => ∃ τ' : SH, τ'.Sublist τ ∧ retV f = .bool true ∧ ∃ p1 p2 p3, ∀ c ∈ lawTS p1 p2 p3, c ∈ τ') NoE
    (.o L (frameP lawKs (some (.ref l) :: (lawKs.drop 1).map fun _ => none)) :: .o c1 (cellP none) :: .o c2 (cellP none) :: .o c3 (cellP none) :: .o c4 (cellP none) :: .o c5 (cellP none) :: .o c6 (cellP none) :: .o c7 (cellP none) :: lawTS #[] #[] #[])
theorem law_sc (H : LawMain) {B : Bx} {l : Addr} {vals : List Value} {ns : List Int} (hL : B.G.IsList l vals.toArray) (hI : IntsAre vals ns) (hlen : ns.length ≤ 63) :
    Sc B callerA (.call (.ref 218) ⟨[.ref l], []⟩) (fun r τ => r = .ok (.ret (.bool true)) ∧ ∃ p1 p2 p3, ∀ c ∈ lawTS p1 p2 p3, c ∈ τ) (lawTS #[] #[] #[]) := by
  refine Sw.callC (ks := lawKs) law_here (law_ok B.w) ⟨by decide, by decide⟩ (law_bind B.w (.ref l)) fun L cs hcs => ?_
  rw [law_s, law_fs] at hcs
  match cs, hcs with
  | [c1, c2, c3, c4, c5, c6, c7], _ =>
  have E := law_env B.w L [c1, c2, c3, c4, c5, c6, c7]
  refine Sw.bindsCons (Sw.st E .head (Sw.bindsNil ?_))
  refine (H B l vals ns L c1 c2 c3 c4 c5 c6 c7 hL hI hlen).mono (fun f τ q => ?_) fun _ _ q => q
  obtain ⟨τ', hs, hv, q⟩ := q
  exact ⟨τ', hs, by rw [hv], q⟩
theorem tabObj_inj {a b : Array Value} (h : tabObj a = tabObj b) : a = b := by
  have : (tabObj a).data = (tabObj b).data := by rw [h]
  injection this
section
variable {w : World} {s₁ : Shared} {mg mb : Str → Option Value} {p : Program} {loose : List Str} {mean : ExcName → Option Value}
theorem law_wf (T : Top p loose mean mg mb s₁.heap) (hseer : s₁.heap.NoSeer) (KX : (KF w).In s₁.heap) (hT : TabsAt lawTabs s₁.heap) (hK : noTabs (KF w) = true) : WF w (ghostOf s₁.heap lawTabs) where
  K := ghost_K hT KX hK
  top := ⟨mg, mb, ghost_ns hT T.g, ghost_ns hT T.b, T.builtins, let ⟨bm, ob, a1, a2, a3, a4, r⟩ := T.bmain; ⟨bm, ob, a1, a2, ghost_get hT a3 (fun q => by rw [q] at a4; cases a4), a4, r⟩⟩
  nolimit := let ⟨mc, a, r⟩ := T.nolimit; ⟨mc, ghost_ns hT a, r⟩
  nodigits := let ⟨mc, a, r⟩ := T.nodigits; ⟨mc, ghost_ns hT a, r⟩
  noSeer := {
    statics := let ⟨mc, a, b⟩ := hseer.statics; ⟨mc, ghost_ns hT a, b⟩
    mods := let ⟨mc, a, b⟩ := hseer.mods; ⟨mc, ghost_ns hT a, b⟩
    imp := let ⟨mc, a, b⟩ := hseer.imp; ⟨mc, ghost_ns hT a, b⟩
    main := let ⟨mg, bm, ob, a, b, c, d, e⟩ := hseer.main; ⟨mg, bm, ob, ghost_ns hT a, b, ghost_get hT c (fun q => by rw [q] at d; cases d), d, e⟩ }
theorem law_own (T : Top p loose mean mg mb s₁.heap) (hseer : s₁.heap.NoSeer) (KX : (KF w).In s₁.heap) (hT : TabsAt lawTabs s₁.heap) (hK : noTabs (KF w) = true) (hg : s₁.gens = #[]) : Own w (ghostOf s₁.heap lawTabs) s₁.heap s₁.gens (lawTS #[] #[] #[]) where
  wf := law_wf T hseer KX hT hK
  keep := fun b o e => of_hideAll _ e
  at' := fun c hc => by
    simp only [lawTS, List.mem_cons, List.not_mem_nil, or_false] at hc
    rcases hc with rfl | rfl | rfl
    · exact ⟨_, (hT (185, 181) (by decide)).2, rfl⟩
    · exact ⟨_, (hT (70, 66) (by decide)).2, rfl⟩
    · exact ⟨_, (hT (77, 73) (by decide)).2, rfl⟩
  low := fun a P m => by
    simp only [lawTS, List.mem_cons, List.not_mem_nil, or_false] at m
    rcases m with m | m | m <;> (cases m; exact hideAll_none _ (by decide))
  nodup := by simp [lawTS, Cl.key]
  bare := by rw [hg]; intro y hy; simp at hy
end

theorem law_good (H : LawMain) {w : World} {s₁ : Shared} {mg mb : Str → Option Value} {p : Program} {loose : List Str} {mean : ExcName → Option Value} {cl : Str → Option Addr} {l : Addr} {vals : List Value} {ns : List Int}
    (T : Top p loose mean mg mb s₁.heap) (hseer : s₁.heap.NoSeer) (KX : (KF w).In s₁.heap) (hT : TabsAt lawTabs s₁.heap) (hK : noTabs (KF w) = true) (hg : s₁.gens = #[]) (hL : s₁.heap.IsList l vals.toArray) (hI : IntsAre vals ns) (hlen : ns.length ≤ 63) (hpost : PySem.Challenge.rw_ah5030_01.row.claim.post [ofPy (.list (ns.map .int))] (.bool true) [ofPy (.list (ns.map .int))] = true) :
    codeAny (model prog w) callerA (.call (.ref 218) ⟨[.ref l], []⟩) (GoodWG PySem.Challenge.rw_ah5030_01.row.claim cl mean [ofPy (.list (ns.map .int))] s₁) s₁ := by
  have O := law_own T hseer KX hT hK hg
  obtain ⟨h1, g1, d1, k1, os1⟩ := s₁
  refine codeAny_mono (law_sc H (B := ⟨w, ghostOf h1 lawTabs, os1⟩) (ghost_list hT hL) hI hlen h1 g1 d1 k1 O) fun r s' q => ?_
  obtain ⟨τ, O', hos, rfl, p1, p2, p3, hm⟩ := q
  have grown : ∀ b o, b ∈ lawTabs.map (·.2) → h1.get? b = some o → isCodeTable h1 b ∧ o = tabObj #[] ∧ ∃ ps, s'.heap.get? b = some (tabObj ps) := fun b o hb e => by
    obtain ⟨q, hq, rfl⟩ := List.mem_map.mp hb
    have e2 := (hT q hq).2
    rw [show h1.get? q.2 = some o from e] at e2
    refine ⟨((hT q hq).1.tab (hT q hq).2).isCodeTable, Option.some.inj e2, ?_⟩
    simp only [lawTabs, List.mem_cons, List.not_mem_nil, or_false] at hq
    rcases hq with rfl | rfl | rfl
    · obtain ⟨o', ho', rfl⟩ := O'.get (hm _ (by walk_at "mem") : Cl.o 181 (eqP (tabObj p1)) ∈ τ)
      exact ⟨p1, ho'⟩
    · obtain ⟨o', ho', rfl⟩ := O'.get (hm _ (by walk_at "mem") : Cl.o 66 (eqP (tabObj p2)) ∈ τ)
      exact ⟨p2, ho'⟩
    · obtain ⟨o', ho', rfl⟩ := O'.get (hm _ (by walk_at "mem") : Cl.o 73 (eqP (tabObj p3)) ∈ τ)
      exact ⟨p3, ho'⟩
  refine ⟨.inl ⟨.bool true, .bool true, [], rfl, fun _ => rfl, .bool _, hpost, fun _ => ⟨List.nodup_nil, fun a ha => nomatch ha⟩⟩, ⟨fun b o e => ?_, fun b o e => ?_⟩, hos, O'.bare⟩
  · by_cases hb : b ∈ lawTabs.map (·.2)
    · obtain ⟨ht, rfl, ps, hP⟩ := grown b o hb e
      exact .inr (.inl ⟨ht, rfl, #[], ps, rfl, by rw [Array.empty_append]; exact hP⟩)
    · exact .inl (O'.keep b o (ghost_ne e hb))
  · by_cases hb : b ∈ lawTabs.map (·.2)
    · obtain ⟨_, _, ps, hP⟩ := grown b o hb e
      exact ⟨_, hP⟩
    · exact ⟨o, O'.keep b o (ghost_ne e hb)⟩
theorem law_holds (H : LawMain) : PySem.Challenge.rw_ah5030_01.Holds := Mine.hd (by
  k_fill
  intro w s₀ s₁ mg mb G Y fa o pm cd doc dV kV ho hd hcd hD hmg hg args vals as hpre hlay hrd hwl hlo
  have KX := km_in_of Y
  km_tabs Y
  have X := (Ground.X G).1
  have V := (Ground.X G).2
  refine Ground.open G ?_
  intro T B D TE TW
  try (refine guard_noD D (by decide +kernel) ?_; clear D)
  km_lay T hmg ho hd cd
  x_fa T KX hmg
  wrow_args hpre hlay hrd hwl hlo
  all_goals (
    first | refine callC_kw (enter_call ?_) | refine enter_call ?_)
  exact law_good H T (T.seer (by decide +kernel)) KX hT9 (by kernel_rfl) hg (by assumption) (by assumption) (by omega) (by first | rfl | wrow_post))
end

-- K1
section
section
variable {B : Bx} {A : Around} {Ψ : Value → SH → Prop} {σ : SH}
theorem Sw.subI {a b : Int} {j k : Tok} {Φ : Value → SH → Prop} (x : ∀ k, Φ (.int (a - b) k) σ) : Sw B A (binaryOp .Sub (.int a j) (.int b k)) Φ Ψ σ := fun h g d tk O => PyProof.Rows.sub_int (.mk O (x _))
theorem Sw.mulI {a b : Int} {j k : Tok} {Φ : Value → SH → Prop} (x : ∀ k, Φ (.int (a * b) k) σ) (hm : IntMulOk a b := by mul_fits) : Sw B A (binaryOp .Mult (.int a j) (.int b k)) Φ Ψ σ := fun h g d tk O => PySem.P.mul_int (.mk O (x _)) hm
theorem Sw.modI {a b : Int} {j k : Tok} {Φ : Value → SH → Prop} (hb : b ≠ 0) (x : ∀ k, Φ (.int (a.fmod b) k) σ) : Sw B A (binaryOp .Mod (.int a j) (.int b k)) Φ Ψ σ := fun h g d tk O => PyProof.Rows.mod_int hb (.mk O (x _))
theorem Sw.divI {a b : Int} {j k : Tok} {Φ : Value → SH → Prop} (hb : b ≠ 0) (hd : Builtin.divisionGoesByPylong a b = false) (x : ∀ k, Φ (.int (a.fdiv b) k) σ) : Sw B A (binaryOp .FloorDiv (.int a j) (.int b k)) Φ Ψ σ := fun h g d tk O => AutoIntOps.floordiv_1 (by simpa using hb) (by rw [hd]; decide) (.mk O (x _))
theorem Sw.ltI {a b : Int} {j k : Tok} {Φ : Value → SH → Prop} (x : Φ (.bool (decide (a < b))) σ) : Sw B A (compareOp .Lt (.int a j) (.int b k)) Φ Ψ σ := fun h g d tk O => PyProof.Rows.lt_int (.mk O x)
theorem Sw.gtI {a b : Int} {j k : Tok} {Φ : Value → SH → Prop} (x : Φ (.bool (decide (b < a))) σ) : Sw B A (compareOp .Gt (.int a j) (.int b k)) Φ Ψ σ := fun h g d tk O => PyProof.Rows.gt_int (.mk O x)
theorem Sw.geI {a b : Int} {j k : Tok} {Φ : Value → SH → Prop} (x : Φ (.bool (decide (a ≥ b))) σ) : Sw B A (compareOp .GtE (.int a j) (.int b k)) Φ Ψ σ := fun h g d tk O => PySem.P.ge_int (.mk O x)
theorem Sw.eqI {a b : Int} {j k : Tok} {Φ : Value → SH → Prop} (x : Φ (.bool (a == b)) σ) : Sw B A (compareOp .Eq (.int a j) (.int b k)) Φ Ψ σ := fun h g d tk O => PyProof.Rows.eq_int (.mk O x)
theorem Sw.neI {a b : Int} {j k : Tok} {Φ : Value → SH → Prop} (x : Φ (.bool (a != b)) σ) : Sw B A (compareOp .NotEq (.int a j) (.int b k)) Φ Ψ σ := fun h g d tk O => PyProof.Rows.ne_int (.mk O x)
theorem Sw.negI {a : Int} {j : Tok} {Φ : Value → SH → Prop} (x : ∀ k, Φ (.int (-a) k) σ) : Sw B A (unaryOp .USub (.int a j)) Φ Ψ σ := fun h g d tk O => PySem.P.neg_int (.mk O (x _))
theorem Sw.truthyI {a : Int} {j : Tok} {Φ : Bool → SH → Prop} (x : Φ (a != 0) σ) : Sw B A (truthy (.int a j)) Φ Ψ σ := fun h g d tk O => PySem.P.truthy_int (.mk O x)
end
end

-- K2
section
@[reducible] def lpKs : List Str := ["q", "size"]
theorem lp_b : okB (fnScope (topStmt 22)) lpKs [] false = true := by decide +kernel
theorem lp_c : noCellB (fnScope (topStmt 22)) = true := by decide +kernel
theorem lp_s (w : World) : (fdK w 213).scope = fnScope (topStmt 22) := by kernel_rfl
theorem lp_e (w : World) : (fdK w 213).body = .stmts (fnBody (topStmt 22)) := by kernel_rfl
theorem lp_bind (w : World) (a b : Value) : bindArgs (fdK w 213) ⟨[a, b], []⟩ = Pure.pure ((["q", "size"] : List Str).zip [a, b]) := by kernel_rfl
theorem lp_ok (w : World) : FnOk (fdK w 213) (fnBody (topStmt 22)) ["q", "size"] lpKs false :=
  FnOk.of (lp_s w) (lp_e w) lp_b lp_c fun as h => by
    match as, h with
    | [a, b], _ => exact lp_bind w a b
def partI (q s : Int) : Int := if q < 2 * s then q.fmod s else 2 * s - 1 - q
section
variable {B : Bx} {A : Around} {Ψ : Value → SH → Prop} {σ : SH} {env : Env} {Φ : Value → SH → Prop}
theorem lp_here : FnHere B 213 (fdK B.w 213) σ := fn_here rfl rfl rfl rfl rfl rfl
theorem lp_body {q s : Int} {k1 k2 : Tok} (E : EnvOk env lpKs []) (hs : s ≠ 0) (y : ∀ k, Φ (.int (partI q s) k) σ) : Sw B A (execs (fnBody (topStmt 22)) env) (Back Φ) NoE (.o env.locals (frameP lpKs [some (.int q k1), some (.int s k2)]) :: σ) := by
  refine Sw.execs_cons ?_
  walk_at "py"
  refine Sw.mulI ?_
  intro k3
  walk_at "py"
  refine Sw.ltI ?_
  refine Sw.truthy_bool ?_
  by_cases h : q < 2 * s
  · rw [decide_eq_true h]
    walk_at "py"
    refine Sw.modI hs ?_
    intro k4
    refine ⟨_, .cons _ (.refl _), ?_⟩
    have := y k4
    unfold partI at this
    rw [if_pos h] at this
    exact this
  · rw [decide_eq_false h]
    walk_at "py"
    refine Sw.mulI ?_
    intro k4
    walk_at "py"
    refine Sw.subI ?_
    intro k5
    walk_at "py"
    refine Sw.subI ?_
    intro k6
    refine ⟨_, .cons _ (.refl _), ?_⟩
    have := y k6
    unfold partI at this
    rw [if_neg h] at this
    exact this
theorem part_call {q s : Int} {k1 k2 : Tok} (hr : Roomy A 1) (hs : s ≠ 0) (y : ∀ k, Φ (.int (partI q s) k) σ) : Sw B A (PySem.call (.ref 213) [.int q k1, .int s k2]) Φ Ψ σ := by
  refine' Sw.callF lp_here (lp_ok B.w) hr ?iv ?_
  case iv => walk_at "iv"
  intro L
  have E : EnvOk (envF (fdK B.w 213) L 213) lpKs [] := EnvOk.of (lp_s B.w) lp_b
  generalize hv : envF (fdK B.w 213) L 213 = env at E ⊢
  have hl : L = env.locals := by rw [← hv]
  subst hl
  exact lp_body E hs y
end
end

-- K3
section
section
variable {B : Bx} {A : Around} {Ψ : Value → SH → Prop} {σ : SH} {env : Env} {Φ : Value → SH → Prop} {a b : Addr} {vs ws : List Value} {c : Cl}
theorem tup_of {h : Heap} (m : ∃ o, h.get? a = some o ∧ tupP vs o) : IsTup h a vs.toArray := by
  obtain ⟨o, ho, n, rfl⟩ := m
  exact ⟨_, ho, rfl, n, rfl⟩
theorem seq_ix {i : Int} {n : Nat} (h0 : 0 ≤ i) (h : i.toNat < n) : seqIndex? i n = some i.toNat := by
  have h2 : i < (n : Int) := by omega
  unfold seqIndex?
  simp [show ¬ i < 0 by omega, h0, h2]
theorem Sw.idxL {i : Int} {k : Tok} {v : Value} (m : Cl.o a (listP vs) ∈ σ) (h0 : 0 ≤ i) (h1 : i < 1000) (hv : vs[i.toNat]? = some v) (x : Φ v σ) : Sw B A (getItem (.ref a) (.int i k)) Φ Ψ σ := fun h g d tk O =>
  wpAny_getItem_list (isList_of (O.get m)) h0 (by omega) (by simpa using hv) (.mk O x)
theorem Sw.idxT {i : Int} {k : Tok} {v : Value} (m : Cl.o a (tupP vs) ∈ σ) (h0 : 0 ≤ i) (h1 : i < 1000) (hv : vs[i.toNat]? = some v) (x : Φ v σ) : Sw B A (getItem (.ref a) (.int i k)) Φ Ψ σ := fun h g d tk O => by
  have hlt : i.toNat < vs.length := (List.getElem?_eq_some_iff.mp hv).1
  refine PyProof.Rows.getItem_tuple (j := i.toNat) (tup_of (O.get m)) (by omega) (by omega) ?_ (by simpa using hv) (.mk O x)
  exact seq_ix h0 (by simpa using hlt)
theorem Sw.idxK {i : Int} {k : Tok} {v : Value} {o : Obj} {n : Nat} (e : (KF B.w).lookup a = some o) (hc : o.cls = .type "tuple") (hd : o.data = .seq vs.toArray n) (h0 : 0 ≤ i) (h1 : i < 1000) (hv : vs[i.toNat]? = some v) (x : Φ v σ) : Sw B A (getItem (.ref a) (.int i k)) Φ Ψ σ := fun h g d tk O => by
  have hlt : i.toNat < vs.length := (List.getElem?_eq_some_iff.mp hv).1
  refine PyProof.Rows.getItem_tuple (j := i.toNat) (⟨o, O.keep _ _ (O.wf.K _ _ e), hc, n, hd⟩ : IsTup h a vs.toArray) (by omega) (by omega) ?_ (by simpa using hv) (.mk O x)
  exact seq_ix h0 (by simpa using hlt)
theorem Sw.addL (m1 : Cl.o a (listP vs) ∈ c :: σ) (m2 : Cl.o b (listP ws) ∈ c :: σ) (hl : vs.length + ws.length < 10000) (x : ∀ r, Φ (.ref r) (c :: .o r (listP (vs ++ ws)) :: σ)) : Sw B A (binaryOp .Add (.ref a) (.ref b)) Φ Ψ (c :: σ) := fun h g d tk O => by
  obtain ⟨o1, e1, n1, rfl⟩ := O.get m1
  obtain ⟨o2, e2, n2, rfl⟩ := O.get m2
  refine PySem.P.add_list (l := a) (b := b) e1 e2 ?_ (by rw [sizeLine_eq]; simp; omega)
  rw [show vs.toArray ++ ws.toArray = (vs ++ ws).toArray by simp]
  exact .mk (O.push2 (P := listP (vs ++ ws)) rfl ⟨_, rfl⟩) (x _)
theorem Sw.addT (m1 : Cl.o a (tupP vs) ∈ c :: σ) (m2 : Cl.o b (tupP ws) ∈ c :: σ) (hl : vs.length + ws.length < 10000) (hw : ws ≠ []) (x0 : vs = [] → Φ (.ref b) (c :: σ)) (x : vs ≠ [] → ∀ r, Φ (.ref r) (c :: .o r (tupP (vs ++ ws)) :: σ)) : Sw B A (binaryOp .Add (.ref a) (.ref b)) Φ Ψ (c :: σ) := fun h g d tk O => by
  obtain ⟨o1, e1, n1, rfl⟩ := O.get m1
  obtain ⟨o2, e2, n2, rfl⟩ := O.get m2
  by_cases hv : vs = []
  · exact concat_meets ⟨_, e1, rfl⟩ ⟨_, e2, rfl⟩ noFill_tuple_add seq_tuple_add PySem.F.slot_tuple_add PySem.F.entry_tuple_add (PySem.F.args_tuple_add_2 _ _)
      (tuple_addW0 a b vs.toArray ws.toArray n1 n2 none none #[] #[] (by simp [hv])) ⟨e1, e2, .mk O (x0 hv)⟩
  · refine concat_meets ⟨_, e1, rfl⟩ ⟨_, e2, rfl⟩ noFill_tuple_add seq_tuple_add PySem.F.slot_tuple_add PySem.F.entry_tuple_add (PySem.F.args_tuple_add_2 _ _)
        (tuple_addW2 a b vs.toArray ws.toArray n1 n2 none none #[] #[] (by simpa using hv) (by simpa using hw) (by rw [List.size_toArray, List.size_toArray, sizeLine_eq]; omega)) ⟨e1, e2, ?_⟩
    rw [show vs.toArray ++ ws.toArray = (vs ++ ws).toArray by simp]
    exact .mk (O.push2 (P := tupP (vs ++ ws)) rfl ⟨_, rfl⟩) (x hv _)
theorem Sw.inT {i : Int} {k : Tok} {ns : List Int} (m : Cl.o a (tupP vs) ∈ σ) (hi : IntsAre vs ns) (x : Φ (.bool (ns.any (· == i))) σ) : Sw B A (compareOp .In (.int i k) (.ref a)) Φ Ψ σ := fun h g d tk O => by
  refine PySem.SeqAt.in_tupleAt (isInt i) (tup_of (O.get m)) (fun y hy => (eq_isInt i k hi y (by simpa using hy)).at _ _) ?_
  rw [← Array.any_toList, show vs.toArray.toList = vs from rfl, any_isInt i hi]
  exact .mk O x
end
end

-- K4
section
abbrev cl2 (p : Addr × (Obj → Prop)) : Cl := .o p.1 p.2
theorem cl2_key {ρ : List (Addr × (Obj → Prop))} : (ρ.map cl2).map Cl.key = (ρ.map (·.1)).map (fun a => 2 * a) := by
  rw [List.map_map, List.map_map]; rfl
theorem Own.many {w : World} {G h h' : Heap} {g : Array GenState} {σ : SH} {ρ ρ' ν : List (Addr × (Obj → Prop))} (O : Own w G h g (ρ.map cl2 ++ σ)) (hk : ρ'.map (·.1) = ρ.map (·.1))
    (hs : ∀ b o, b ∉ ρ.map (·.1) → h.get? b = some o → h'.get? b = some o) (hn : ∀ p ∈ ρ', ∃ o, h'.get? p.1 = some o ∧ p.2 o) (hν : ∀ p ∈ ν, h.get? p.1 = none ∧ ∃ o, h'.get? p.1 = some o ∧ p.2 o) (hnd : (ν.map (·.1)).Nodup) :
    Own w G h' g (ρ'.map cl2 ++ (ν.map cl2 ++ σ)) := by
  have nd := O.nodup
  rw [List.map_append, cl2_key] at nd
  obtain ⟨nd1, nd2, nd3⟩ := List.nodup_append.mp nd
  have lowρ : ∀ a, a ∈ ρ.map (·.1) → G.get? a = none := fun a ha => by
    obtain ⟨p, hp, rfl⟩ := List.mem_map.mp ha
    exact O.low p.1 p.2 (List.mem_append_left _ (List.mem_map_of_mem hp))
  refine ⟨O.wf, fun b o e => hs b o (fun hb => by rw [lowρ b hb] at e; cases e) (O.keep b o e), fun c hc => ?_, fun a P m => ?_, ?_, O.bare⟩
  · rcases List.mem_append.mp hc with hc | hc
    · obtain ⟨p, hp, rfl⟩ := List.mem_map.mp hc
      exact hn p hp
    · rcases List.mem_append.mp hc with hc | hc
      · obtain ⟨p, hp, rfl⟩ := List.mem_map.mp hc
        exact (hν p hp).2
      · have := O.at' c (List.mem_append_right _ hc)
        cases c with
        | o a Q =>
          obtain ⟨o', e, q⟩ := this
          refine ⟨o', hs a o' (fun ha => ?_) e, q⟩
          exact nd3 (2 * a) (List.mem_map_of_mem ha) (2 * a) (List.mem_map_of_mem (f := Cl.key) hc) rfl
        | g n st => exact this
  · rcases List.mem_append.mp m with m | m
    · obtain ⟨p, hp, e⟩ := List.mem_map.mp m
      cases e
      exact lowρ _ (by rw [← hk]; exact List.mem_map_of_mem hp)
    · rcases List.mem_append.mp m with m | m
      · obtain ⟨p, hp, e⟩ := List.mem_map.mp m
        cases e
        cases q : G.get? p.1 with
        | none => rfl
        | some o' => have := O.keep _ _ q; rw [(hν p hp).1] at this; cases this
      · exact O.low a P (List.mem_append_right _ m)
  · rw [List.map_append, List.map_append, cl2_key, cl2_key, hk]
    have fresh : ∀ p ∈ ν, ∀ c ∈ ρ.map cl2 ++ σ, c.key ≠ 2 * p.1 := fun p hp c hc q => by
      have := O.at' c hc
      cases c with
      | o a Q =>
        obtain ⟨o', e, _⟩ := this
        have q' : @Eq Nat (2 * a) (2 * p.1) := q
        have : @Eq Nat a p.1 := by omega
        rw [this, (hν p hp).1] at e
        cases e
      | g n st =>
        have q' : @Eq Nat (2 * n + 1) (2 * p.1) := q
        omega
    refine List.nodup_append.mpr ⟨nd1, List.nodup_append.mpr ⟨?_, nd2, ?_⟩, ?_⟩
    · exact List.Pairwise.map _ (fun a b (hab : ¬ @Eq Nat a b) (q : @Eq Nat (2 * a) (2 * b)) => hab (by omega)) hnd
    · intro x hx y hy e
      obtain ⟨a, ha, rfl⟩ := List.mem_map.mp hx
      obtain ⟨p, hp, rfl⟩ := List.mem_map.mp ha
      obtain ⟨c, hc, rfl⟩ := List.mem_map.mp hy
      exact fresh p hp c (List.mem_append_right _ hc) e.symm
    · intro x hx y hy e
      rcases List.mem_append.mp hy with hy | hy
      · obtain ⟨a, ha, rfl⟩ := List.mem_map.mp hx
        obtain ⟨p0, hp0, rfl⟩ := List.mem_map.mp ha
        obtain ⟨b, hb, rfl⟩ := List.mem_map.mp hy
        obtain ⟨p, hp, rfl⟩ := List.mem_map.mp hb
        exact fresh p hp (cl2 p0) (List.mem_append_left _ (List.mem_map_of_mem hp0)) e
      · exact nd3 x hx y hy e
def enP (it : Addr) (i : Int) (o : Obj) : Prop := ∃ old, o = { cls := .type "enumerate", dict := none, data := .fields #[.none, .bool false, .ref it, rawInt i, .none, old], slots := #[] }
def enOutP (it : Addr) (i : Int) (x : Value) (t : Addr) (o : Obj) : Prop := o = { cls := .type "enumerate", dict := none, data := .fields #[rawInt t, .bool false, .ref it, rawInt i, .none, x], slots := #[] }
section
variable {B : Bx} {A : Around} {Ψ : Value → SH → Prop} {σ τ : SH} {env : Env}
theorem Own.ne2 {w : World} {G h : Heap} {g : Array GenState} {a b : Addr} {P Q : Obj → Prop} (O : Own w G h g (.o a P :: .o b Q :: σ)) : a ≠ b := fun e => by
  have := O.nodup
  subst e
  simp [Cl.key] at this
theorem Sw.next_enum {e it l : Addr} {i : Nat} {vs : List Value} {v : Value} {Φ : Option Value → SH → Prop} (m : Cl.o l (listP vs) ∈ σ) (hv : vs[i]? = some v)
    (x : ∀ t k, Φ (some (.ref t)) (.o e (enOutP it ((i : Int) + 1) v t) :: .o it (liP l (i + 1)) :: .o t (tupP [.int i k, v]) :: σ)) : Sw B A (pyNext (.ref e)) Φ Ψ (.o e (enP it i) :: .o it (liP l i) :: σ) := fun h g d k O => by
  obtain ⟨o1, e1, old, rfl⟩ := O.get (.head _)
  obtain ⟨o2, e2, c1, c2⟩ := O.get (.tail _ (.head _))
  refine wpAny_pyNext_enum_item (s := ⟨h, g, d, k, B.os⟩) e1 ⟨o2, e2, c1, c2⟩ (isList_of (O.get (.tail _ (.tail _ m)))) (by simpa using hv) O.ne2 fun h' a1 a2 a3 a4 a5 => ?_
  obtain ⟨o3, e3, c3, c4⟩ := a2
  have O' := Own.many (ρ := [(e, enP it i), (it, liP l i)]) (ρ' := [(e, enOutP it ((i : Int) + 1) v h.objs.size), (it, liP l (i + 1))]) (ν := [(h.objs.size, tupP [.int i k, v])]) (h' := h') (σ := σ) O rfl
    (fun b o hb x => a5 b o (fun q => hb (by simp [q])) (fun q => hb (by simp [q])) x) (fun p hp => by
      simp only [List.mem_cons, List.not_mem_nil, or_false] at hp
      rcases hp with rfl | rfl
      · exact ⟨_, a1, rfl⟩
      · exact ⟨o3, e3, c3, c4⟩) (fun p hp => by
      simp only [List.mem_cons, List.not_mem_nil, or_false] at hp
      subst hp
      exact ⟨Heap.get?_none_of_le (Nat.le_refl _), _, a3, 0, rfl⟩) (by simp)
  exact .mk O' (x h.objs.size k)
theorem Sw.go_enum {e it t : Addr} {i : Int} {v : Value} {elts : List Expr} {kk : Nat} {pos : Pos} {Φ : Unit → SH → Prop} (x : Φ () (.o e (enP it i) :: σ)) : Sw B A (letOwnedTupleGo (.Tuple elts kk pos) (.ref e) (.ref t)) Φ Ψ (.o e (enOutP it i v t) :: σ) := fun h g d k O => by
  obtain ⟨o1, e1, rfl⟩ := O.get (.head _)
  exact wpAny_letOwnedTupleGo_enum (s := ⟨h, g, d, k, B.os⟩) e1 fun h' a1 a2 => .mk (O.upd .head (fun b o hb y => (a2.2 b hb).trans y) ⟨_, a1, _, rfl⟩) x
theorem Sw.enum_end {e it l : Addr} {i : Nat} {vs : List Value} {Φ : Option Value → SH → Prop} (hh : A.handled = none) (m : Cl.o l (listP vs) ∈ σ) (hv : vs[i]? = none) (x : Φ none σ) : Sw B A (pyNext (.ref e)) Φ Ψ (.o e (enP it i) :: .o it (liP l i) :: σ) := fun h g d k O => by
  obtain ⟨o1, e1, old, rfl⟩ := O.get (.head _)
  obtain ⟨o2, e2, c1, c2⟩ := O.get (.tail _ (.head _))
  refine wpAny_pyNext_enum_end (s := ⟨h, g, d, k, B.os⟩) hh e1 ⟨o2, e2, c1, c2⟩ (isList_of (O.get (.tail _ (.tail _ m)))) (by simpa using hv) fun h' hx => ?_
  exact .mk ((O.extDel (τ := .o e (enP it i) :: σ) (.tail .head) hx).sublist (.cons _ (.refl _))) x
theorem Sw.call_enum {c : Cl} {l : Addr} {vs : List Value} {Φ : Value → SH → Prop} (m : Cl.o l (listP vs) ∈ c :: σ) (x : ∀ e it, Φ (.ref e) (c :: .o e (enP it 0) :: .o it (liP l 0) :: σ)) : Sw B A (PySem.call (.type "enumerate") [.ref l]) Φ Ψ (c :: σ) := fun h g d k O => by
  refine call_enumerate_list (s := ⟨h, g, d, k, B.os⟩) (isList_of (O.get m)) fun h' a1 a2 a3 a4 => ?_
  obtain ⟨o3, e3, c3, c4⟩ := a2
  have O' := O.adds (h' := h') (ρ := [(h.objs.size + 1, enP h.objs.size 0), (h.objs.size, liP l 0)]) a4 (by simp) (fun p hp => by
    simp only [List.mem_cons, List.not_mem_nil, or_false] at hp
    rcases hp with rfl | rfl
    · exact ⟨Heap.get?_none_of_le (by simp), _, a1, _, rfl⟩
    · exact ⟨Heap.get?_none_of_le (Nat.le_refl _), o3, e3, c3, c4⟩)
  exact .mk (O'.perm (List.perm_middle (l₁ := [_, _]))) (x _ _)
theorem Sw.iter_enum {e it : Addr} {i : Int} {Φ : Value → SH → Prop} (m : Cl.o e (enP it i) ∈ σ) (x : Φ (.ref e) σ) : Sw B A (pyIter (.ref e)) Φ Ψ σ := fun h g d k O => by
  obtain ⟨o1, e1, old, rfl⟩ := O.get m
  exact wpAny_pyIter_enum (s := ⟨h, g, d, k, B.os⟩) e1 (.mk O x)
end
end

-- K5
section
@[reducible] def lwKs : List Str := ["kinds", "i", "deep", "way", "indent", "line", "text", "j", "part", "more", "ring"]
theorem lw_b : okB (fnScope (topStmt 20)) lwKs [] false = true := by decide +kernel
theorem lw_c : noCellB (fnScope (topStmt 20)) = true := by decide +kernel
theorem lw_s (w : World) : (fdK w 201).scope = fnScope (topStmt 20) := by kernel_rfl
theorem lw_e (w : World) : (fdK w 201).body = .stmts (fnBody (topStmt 20)) := by kernel_rfl
@[reducible] def lwPs : List Str := ["kinds", "i", "deep", "way", "indent"]
theorem lw_bind (w : World) (a b c d e : Value) : bindArgs (fdK w 201) ⟨[a, b, c, d, e], []⟩ = Pure.pure (lwPs.zip [a, b, c, d, e]) := by kernel_rfl
theorem lw_ok (w : World) : FnOk (fdK w 201) (fnBody (topStmt 20)) lwPs lwKs false :=
  FnOk.of (lw_s w) (lw_e w) lw_b lw_c fun as h => by
    match as, h with
    | [a, b, c, d, e], _ => exact lw_bind w a b c d e
@[reducible] def lwGs : List Str := ["enumerate", "_law_names", "_law_words", "_law_walk"]
theorem lw_g (w : World) (L : Addr) : GlbOk (envF (fdK w 201) L 201) lwGs := glb_of (lw_s w) (by kernel_rfl) (by kernel_rfl) (by decide +kernel)
theorem g_names (w : World) : nsIn (KF w) mainGlobals (Str.ofString "_law_names") = some (some (.ref 194)) := by kernel_rfl
theorem g_words (w : World) : nsIn (KF w) mainGlobals (Str.ofString "_law_words") = some (some (.ref 193)) := by kernel_rfl
theorem g_walk (w : World) : nsIn (KF w) mainGlobals (Str.ofString "_law_walk") = some (some (.ref 201)) := by kernel_rfl
theorem b_enum : bootBuiltins (Str.ofString "enumerate") = some (.type "enumerate") := by decide +kernel
-- what the law's own unrolling computes
def wparts (g : Nat → Str × Bool) (isD : Bool) (sep line : Str) : List Int → Nat → Str → Str × Bool
  | [], _, text => (text, false)
  | p :: ps, j, text =>
    let t1 := (if j > 0 then text ++ sep else text) ++ line
    let t2 := if isD then t1 ++ ((Str.ofString "\"" ++ nameK j) ++ Str.ofString "\": ") else t1
    if p < 0 then wparts g isD sep line ps (j + 1) (t2 ++ wordT (wix p))
    else if (g p.toNat).2 then (t2 ++ (g p.toNat).1, true)
    else wparts g isD sep line ps (j + 1) (t2 ++ (g p.toNat).1)
def walkT (t : Th) (ind : Option Str) : Nat → Nat → Nat → List Nat → Str × Bool
  | 0, _, _, _ => (Str.ofString "", true)
  | f + 1, i, deep, way =>
    if (t.pt i).isEmpty then (if t.isD i then Str.ofString "{}" else Str.ofString "[]", false)
    else if i ∈ way then (Str.ofString "", true)
    else
      let r := wparts (fun j => walkT t ind f j (deep + 1) (way ++ [i])) (t.isD i) (sepI ind) (nlI ind (deep + 1)) (t.pt i) 0 (if t.isD i then Str.ofString "{" else Str.ofString "[")
      if r.2 then (r.1, true)
      else ((match ind with | none => r.1 | some _ => r.1 ++ nlI ind deep) ++ (if t.isD i then Str.ofString "}" else Str.ofString "]"), false)
-- kinds: a list of pairs (0 or 1, a list of ints)
structure Kd where
  kl : Addr
  tu : Nat → Addr
  pl : Nat → Addr
  kt : Nat → Tok
  pv : Nat → List Value
structure KdOk (K : Kd) (t : Th) (R : SH) : Prop where
  list : Cl.o K.kl (listP ((List.range t.sz).map fun i => .ref (K.tu i))) ∈ R
  pair : ∀ i, i < t.sz → Cl.o (K.tu i) (tupP [.int (if t.isD i then 1 else 0) (K.kt i), .ref (K.pl i)]) ∈ R
  parts : ∀ i, i < t.sz → Cl.o (K.pl i) (listP (K.pv i)) ∈ R
  numb : ∀ i, i < t.sz → IntsAre (K.pv i) (t.pt i)
theorem KdOk.mono {K : Kd} {t : Th} {R R' : SH} (x : KdOk K t R) (h : ∀ c ∈ R, c ∈ R') : KdOk K t R' := ⟨h _ x.list, fun i hi => h _ (x.pair i hi), fun i hi => h _ (x.parts i hi), x.numb⟩
end

-- K6
section
local macro_rules | `(tactic| walk_at "gl") => `(tactic| with_reducible first | exact g_names _ | exact g_words _ | exact g_walk _)
local macro_rules | `(tactic| walk_at "bl") => `(tactic| with_reducible first | exact b_enum)
section
variable {B : Bx} {A : Around} {Ψ : Value → SH → Prop} {σ τ S R T : SH} {env : Env} {Φ : Value → SH → Prop} {t : Th} {K : Kd}
theorem atL {a : Addr} {vs : List Value} {i : Int} {k : Tok} {v : Value} (m : Cl.o a (listP vs) ∈ σ) (h0 : 0 ≤ i) (h1 : i < 1000) (hv : vs[i.toNat]? = some v) (x : Φ v σ) : (∃ T id, typeLookup (.type T) "__getitem__" = Pure.pure (some (.builtin id)) ∧ TyIs B (.ref a) T σ) ∧ Sw B A (getItem (.ref a) (.int i k)) Φ Ψ σ :=
  ⟨⟨"list", _, F.slot_list_getitem.lookup, TyIs.own m fun o ⟨n, e⟩ => by rw [e]⟩, Sw.idxL m h0 h1 hv x⟩
theorem atT {a : Addr} {vs : List Value} {i : Int} {k : Tok} {v : Value} (m : Cl.o a (tupP vs) ∈ σ) (h0 : 0 ≤ i) (h1 : i < 1000) (hv : vs[i.toNat]? = some v) (x : Φ v σ) : (∃ T id, typeLookup (.type T) "__getitem__" = Pure.pure (some (.builtin id)) ∧ TyIs B (.ref a) T σ) ∧ Sw B A (getItem (.ref a) (.int i k)) Φ Ψ σ :=
  ⟨⟨"tuple", _, F.slot_tuple_getitem.lookup, TyIs.own m fun o ⟨n, e⟩ => by rw [e]⟩, Sw.idxT m h0 h1 hv x⟩
theorem atK {a : Addr} {vs : List Value} {i : Int} {k : Tok} {v : Value} {o : Obj} {n : Nat} (e : (KF B.w).lookup a = some o) (hc : o.cls = .type "tuple") (hd : o.data = .seq vs.toArray n) (h0 : 0 ≤ i) (h1 : i < 1000) (hv : vs[i.toNat]? = some v) (x : Φ v σ) : (∃ T id, typeLookup (.type T) "__getitem__" = Pure.pure (some (.builtin id)) ∧ TyIs B (.ref a) T σ) ∧ Sw B A (getItem (.ref a) (.int i k)) Φ Ψ σ :=
  ⟨⟨"tuple", _, F.slot_tuple_getitem.lookup, TyIs.kin e hc⟩, Sw.idxK e hc hd h0 h1 hv x⟩
theorem atKinds {i : Nat} {k : Tok} (kok : KdOk K t R) (hR : ∀ c ∈ R, c ∈ σ) (hi : i < t.sz) (hsz : t.sz ≤ 3) (x : Φ (.ref (K.tu i)) σ) : (∃ T id, typeLookup (.type T) "__getitem__" = Pure.pure (some (.builtin id)) ∧ TyIs B (.ref K.kl) T σ) ∧ Sw B A (getItem (.ref K.kl) (.int i k)) Φ Ψ σ :=
  atL (hR _ kok.list) (by omega) (by omega) (by simp [hi]) x
theorem at0 {i : Nat} {k : Tok} (kok : KdOk K t R) (hR : ∀ c ∈ R, c ∈ σ) (hi : i < t.sz) (x : Φ (.int (if t.isD i then 1 else 0) (K.kt i)) σ) : (∃ T id, typeLookup (.type T) "__getitem__" = Pure.pure (some (.builtin id)) ∧ TyIs B (.ref (K.tu i)) T σ) ∧ Sw B A (getItem (.ref (K.tu i)) (.int 0 k)) Φ Ψ σ :=
  atT (hR _ (kok.pair i hi)) (by decide) (by decide) rfl x
theorem at1 {i : Nat} {k : Tok} (kok : KdOk K t R) (hR : ∀ c ∈ R, c ∈ σ) (hi : i < t.sz) (x : Φ (.ref (K.pl i)) σ) : (∃ T id, typeLookup (.type T) "__getitem__" = Pure.pure (some (.builtin id)) ∧ TyIs B (.ref (K.tu i)) T σ) ∧ Sw B A (getItem (.ref (K.tu i)) (.int 1 k)) Φ Ψ σ :=
  atT (hR _ (kok.pair i hi)) (by decide) (by decide) rfl x
@[reducible] def lwVs (K : Kd) (i : Nat) (ki : Tok) (deep : Nat) (kd : Tok) (w : Addr) (indv : Value) (l tx j p m r : Option Value) : List (Option Value) := [some (.ref K.kl), some (.int i ki), some (.int deep kd), some (.ref w), some indv, l, tx, j, p, m, r]
end
end

-- M1
section
def rgP (b : Int) (o : Obj) : Prop := ∃ t u v, o = { cls := .type "range", dict := none, data := .fields #[.int 0 t, .int b u, .int 1 v], slots := #[] }
def riP (x left : Int) (o : Obj) : Prop := o = { cls := .type "range_iterator", dict := none, data := .fields #[rawInt x, rawInt left, rawInt 1], slots := #[] }
-- a list of which only class and items are told
def listW (vs : List Value) (o : Obj) : Prop := o.cls = .type "list" ∧ ∃ n, o.data = .seq vs.toArray n
theorem listW_of {vs : List Value} {o : Obj} (h : listP vs o) : listW vs o := by obtain ⟨n, rfl⟩ := h; exact ⟨rfl, n, rfl⟩
theorem IntsAre.items : ∀ {vs : List Value} {ns : List Int}, IntsAre vs ns → ∃ xs : List (Int × Tok), vs = xs.map (fun x => Value.int x.1 x.2) ∧ ns = xs.map (·.1)
  | _, _, .nil => ⟨[], rfl, rfl⟩
  | _, _, .cons n t h => let ⟨xs, a, b⟩ := IntsAre.items h; ⟨(n, t) :: xs, by rw [a]; rfl, by rw [b]; rfl⟩
section
variable {B : Bx} {A : Around} {Ψ : Value → SH → Prop} {σ τ S R T : SH} {env : Env} {Φ : Value → SH → Prop}
theorem Sw.s_Assign_Tuple {elts : List Expr} {kk : Nat} {tpos : Pos} {value : Expr} {pos : Pos} {Φ : Flow → SH → Prop}
    (y : Sw B A (eval value env) (fun v τ => Sw B A (assign (.Tuple elts kk tpos) env v) (fun _ => Φ .next) Ψ τ) Ψ σ)
    (hs : swapsWithSole [.Tuple elts kk tpos] value pos.line env = Pure.pure false := by with_unfolding_all rfl) (hw : swappedStores [.Tuple elts kk tpos] value env = Pure.pure none := by with_unfolding_all rfl) :
    Sw B A (exec (.Assign [.Tuple elts kk tpos] value pos) env) Φ Ψ σ := fun h g d k O =>
  Assign_Tuple (wpAny_mono (y h g d k O) (fun _ _ q => q.bind) fun _ _ q => q) hs hw
theorem Sw.s_Assign_Sub {o i : Expr} {tpos : Pos} {value : Expr} {pos : Pos} {Φ : Flow → SH → Prop}
    (y : Sw B A (eval value env) (fun v τ => Sw B A (eval o env) (fun ov τ => Sw B A (eval i env) (fun iv τ => Sw B A (setItem ov iv v) (fun _ => Φ .next) Ψ τ) Ψ τ) Ψ τ) Ψ σ)
    (hs : swapsWith value (some (.Subscript o i tpos)) pos.line env = Pure.pure false := by with_unfolding_all rfl) :
    Sw B A (exec (.Assign [.Subscript o i tpos] value pos) env) Φ Ψ σ := fun h g d k O =>
  wpAny_Assign_Subscript (wpAny_mono (y h g d k O) (fun _ _ q => wpAny_mono q.bind (fun _ _ q => wpAny_mono q.bind (fun _ _ q => q.bind) fun _ _ q => q) fun _ _ q => q) fun _ _ q => q) hs
theorem Sw.s_Aug_Sub {o i : Expr} {tpos : Pos} {op : Operator} {value : Expr} {pos : Pos} {Φ : Flow → SH → Prop}
    (y : Sw B A (eval o env) (fun ov τ => Sw B A (eval i env) (fun iv τ => Sw B A (getItem ov iv) (fun old τ => Sw B A (eval value env) (fun v τ => Sw B A (inplaceOp op old v) (fun new τ => Sw B A (setItem ov iv new) (fun _ => Φ .next) Ψ τ) Ψ τ) Ψ τ) Ψ τ) Ψ τ) Ψ σ)
    (hi : ∀ ov iv new, augStore i ov iv new = (do PySem.holding [new, ov, iv] (setItem ov iv new); release [new, ov, iv] []; Pure.pure .next) := by intros; with_unfolding_all rfl) :
    Sw B A (exec (.AugAssign (.Subscript o i tpos) op value pos) env) Φ Ψ σ := fun h g d k O =>
  wpAny_AugAssign_SubscriptAny (wpAny_mono (y h g d k O) (fun _ _ q => wpAny_mono q.bind (fun _ _ q => wpAny_mono q.bind (fun _ _ q => wpAny_mono q.bind (fun _ _ q => wpAny_mono q.bind (fun _ _ q => q.bind) fun _ _ q => q) fun _ _ q => q) fun _ _ q => q) fun _ _ q => q) fun _ _ q => q) hi
-- ranges
theorem Sw.call_range {c : Cl} {n : Int} {t : Tok} (x : ∀ r, Φ (.ref r) (c :: .o r (rgP n) :: σ)) : Sw B A (PySem.call (.type "range") [.int n t]) Φ Ψ (c :: σ) := fun h g d k O =>
  call_range_1 (.mk (O.push2 rfl ⟨_, _, _, rfl⟩) (x _))
theorem Sw.iter_range {c : Cl} {r : Addr} {n : Int} (h0 : 0 ≤ n) (h1 : n < 1000) (m : Cl.o r (rgP n) ∈ c :: σ) (x : ∀ it, Φ (.ref it) (c :: .o it (riP 0 n) :: σ)) : Sw B A (pyIter (.ref r)) Φ Ψ (c :: σ) := fun h g d k O => by
  obtain ⟨o, ho, t, u, v, rfl⟩ := O.get m
  refine wpAny_pyIter_range (a := 0) (b := n) (c := 1) ho (small_one (by omega) (by omega) (by omega) (by omega)) ?_
  have e : Builtin.Range.rangeSize 0 n 1 = n := by rw [rangeSize_one]; split <;> omega
  rw [e]
  exact .mk (O.push2 rfl (P := riP 0 n) rfl) (x _)
theorem Sw.next_range {it : Addr} {x left : Int} {Φ : Option Value → SH → Prop} (u : Upd it (riP x left) (riP (x + 1) (left - 1)) σ τ) (hl : 0 < left) (y : ∀ k, Φ (some (.int x k)) τ) : Sw B A (pyNext (.ref it)) Φ Ψ σ := fun h g d k O => by
  obtain ⟨o, ho, rfl⟩ := O.get u.mem
  exact wpAny_pyNext_range_item ho hl fun h' hi hs => .mk (O.same u hs ⟨_, hi, rfl⟩) (y _)
theorem Sw.next_range_end {it : Addr} {x left : Int} {Φ : Option Value → SH → Prop} (hh : A.handled = none) (u : Del (.o it (riP x left)) σ τ) (hl : left ≤ 0) (y : Φ none τ) : Sw B A (pyNext (.ref it)) Φ Ψ σ := fun h g d k O => by
  obtain ⟨o, ho, rfl⟩ := O.get u.mem
  exact wpAny_pyNext_range_end hh ho hl fun h' hs => .mk (O.extDel u hs) y
-- lists
theorem isListW {h : Heap} {l : Addr} {vs : List Value} (x : ∃ o, h.get? l = some o ∧ listW vs o) : h.IsList l vs.toArray := by
  obtain ⟨o, ho, hc, n, hd⟩ := x
  exact ⟨_, ho, hc, n, hd⟩
theorem Sw.idxW {a : Addr} {vs : List Value} {i : Int} {k : Tok} {v : Value} (m : Cl.o a (listW vs) ∈ σ) (h0 : 0 ≤ i) (h1 : i < 1000) (hv : vs[i.toNat]? = some v) (x : Φ v σ) : Sw B A (getItem (.ref a) (.int i k)) Φ Ψ σ := fun h g d tk O =>
  wpAny_getItem_list (isListW (O.get m)) h0 (by omega) (by simpa using hv) (.mk O x)
theorem Sw.setW {a : Addr} {vs : List Value} {i : Int} {k : Tok} {v : Value} {Φ : Unit → SH → Prop} (u : Upd a (listW vs) (listW (vs.set i.toNat v)) σ τ) (h0 : 0 ≤ i) (h1 : i < 1000) (hv : i < vs.length) (x : Φ () τ) : Sw B A (setItem (.ref a) (.int i k) v) Φ Ψ σ := fun h g d tk O =>
  wpAny_setItem_list (isListW (O.get u.mem)) h0 (by omega) (by simpa using hv) fun h' hl hs => .mk (O.same u hs (by
    obtain ⟨o, ho, hc, n, hd⟩ := hl
    refine ⟨o, ho, hc, n, ?_⟩
    rw [hd]; simp)) x
theorem Sw.clearL {l : Addr} {vs : List Value} (u : Upd l (listP vs) (listP []) σ τ) (hl : vs.length < 100000) (x : Φ .none τ) : Sw B A (PySem.call (.builtin "list.clear") [.ref l]) Φ Ψ σ := fun h g d k O => by
  obtain ⟨o, ho, n, rfl⟩ := O.get u.mem
  refine call_meets F.slot_list_clear ⟨_, ho, rfl⟩ F.entry_list_clear (F.args_list_clear_1 _) (PySem.AutoSeq1.list_clear_list_0 l vs.toArray n (by rw [sizeLine_eq]; simp; omega)) ⟨ho, ?_⟩
  refine .mk (O.update u (f := Obj.mapSeq fun _ => #[]) (fun o hp => ?_)) x
  obtain ⟨n, rfl⟩ := hp
  exact ⟨rfl, _, rfl⟩
theorem Sw.sliceTo {value upper : Expr} {p pos : Pos}
    (x : Sw B A (eval value env) (fun o τ => Sw B A (eval upper env) (fun u τ => ∃ (l : Addr) (vs : List Value) (n : Int) (k : Tok) (c : Cl) (τ' : SH), o = .ref l ∧ u = .int n k ∧ τ = c :: τ' ∧ 0 ≤ n ∧ n < 1000 ∧ vs.length < 100000 ∧ (∀ h g, Own B.w B.G h g τ → h.IsList l vs.toArray) ∧ ∀ r, Φ (.ref r) (c :: .o r (listP (vs.take n.toNat)) :: τ')) Ψ τ) Ψ σ)
    (ht : ∀ o r, letTemporaryGo value o r = Pure.pure () := by intro _ _; with_unfolding_all rfl) : Sw B A (eval (.Subscript value (.Slice none (some upper) none p) pos) env) Φ Ψ σ := fun h g d k O => by
  refine wpAny_Subscript_list_slice (wpAny_mono (x h g d k O) (fun o s q => ?_) fun _ _ q => q) ht
  obtain ⟨τ, O, e, q⟩ := q
  obtain ⟨h, g, d, k, os⟩ := s
  cases e
  rw [evalPart_none]
  refine wpAny_pure (wpAny_mono (q h g d k O) (fun u s q => ?_) fun _ _ q => q)
  obtain ⟨τ, O, e, l, vs, n, k2, c, τ', rfl, rfl, rfl, h0, h1, hl, hL, q⟩ := q
  obtain ⟨h, g, d, k, os⟩ := s
  cases e
  have O1 := O.push (o := { cls := .type "slice", data := .fields #[.none, .int n k2, .none] }) rfl (P := fun _ => True) trivial
  have O2 := (O1.sublist (τ := c :: τ') (.cons _ (.refl _))).push2 (o := { cls := .type "list", data := .seq (slicePick vs.toArray none (some n) none) }) rfl (P := listP (vs.take n.toNat)) ⟨0, by
    obtain ⟨m, rfl⟩ := Int.eq_ofNat_of_zero_le h0
    rw [slicePick_upto']
    rfl⟩
  refine ⟨l, vs.toArray, none, some n, rfl, hL _ _ O, by rw [sizeLine_eq]; simp; omega, .none, .int n k2, ?_⟩
  have e : (h.push { cls := .type "slice", data := .fields #[.none, .int n k2, .none] }).objs.size = h.objs.size + 1 := Heap.size_push ..
  rw [e] at O2
  exact .mk O2 (q _)
theorem Sw.sumL {l : Addr} {vs : List Value} {ns : List Int} (hh : A.handled = none) (m : Cl.o l (listP vs) ∈ σ) (hi : IntsAre vs ns) (x : ∀ k, Φ (.int ns.sum k) σ) : Sw B A (PySem.call (.builtin "sum") [.ref l]) Φ Ψ σ := fun h g d k O => by
  obtain ⟨xs, rfl, rfl⟩ := IntsAre.items hi
  have hL := isList_of (O.get m)
  refine sum_intListG (xs := xs.toArray) hh (by simpa [intItems] using hL) fun h' tk t' hk => ?_
  refine .mk (O.keeps hk) ?_
  have := x t'
  have e : preSum (numAt xs.toArray) xs.toArray.size = (xs.map (·.1)).sum := by rw [preSum_eq, List.take_of_length_le (by simp)]
  rw [e]; exact this
-- dicts
theorem dictOf_of {w : World} {h : Heap} {d : Addr} {kvs : List (Str × Value)} (x : ∃ o, h.get? d = some o ∧ dictP w kvs o) : h.DictOf (PySem.strKind prog w) d kvs := by
  obtain ⟨o, ho, hx, es, ep, h1, h2, h3, h4⟩ := x
  exact ⟨o, es, ep, ho, hx, h1, h2, h3, h4⟩
theorem dictP_of {w : World} {h : Heap} {d : Addr} {kvs : List (Str × Value)} (x : h.DictOf (PySem.strKind prog w) d kvs) : ∃ o, h.get? d = some o ∧ dictP w kvs o := by
  obtain ⟨o, es, ep, ho, hx, h1, h2, h3, h4⟩ := x
  exact ⟨o, ho, hx, es, ep, h1, h2, h3, h4⟩
theorem Sw.setD {d : Addr} {kvs : List (Str × Value)} {key : Str} {k : Tok} {v : Value} {Φ : Unit → SH → Prop} (u : Upd d (dictP B.w kvs) (dictP B.w (stored kvs key v)) σ τ) (hl : kvs.length < 1000) (x : Φ () τ) : Sw B A (setItem (.ref d) (.str key k) v) Φ Ψ σ := fun h g dr tk O =>
  wpAny_setItem_pairs (knd := PySem.strKind prog B.w) (strKind_is _ _ _ _) (dictOf_of (O.get u.mem)) (fun h' hd hs => .mk (O.same u hs (dictP_of hd)) x) (by rw [sizeLine_eq]; omega)
theorem Sw.getD {d : Addr} {kvs : List (Str × Value)} {key : Str} {k : Tok} {v : Value} (m : Cl.o d (dictP B.w kvs) ∈ σ) (hv : valueAt kvs key = some v) (x : Φ v σ) : Sw B A (getItem (.ref d) (.str key k)) Φ Ψ σ := fun h g dr tk O =>
  wpAny_getItem_of (knd := PySem.strKind prog B.w) (strKind_is _ _ _ _) (dictOf_of (O.get m)).mapOf hv (.mk O x)
theorem Sw.clearD {d : Addr} {kvs : List (Str × Value)} (u : Upd d (dictP B.w kvs) (dictP B.w []) σ τ) (hl : kvs.length < 100000) (x : Φ .none τ) : Sw B A (PySem.call (.builtin "dict.clear") [.ref d]) Φ Ψ σ := fun h g dr k O => by
  have hD := dictOf_of (O.get u.mem)
  refine call_meetsIn F.slot_dict_clear hD.typeIs F.entry_dict_clear (F.args_dict_clear_1 _) (meets_dict_clear (knd := PySem.strKind prog B.w) (d := d)) ⟨kvs, hD, by rw [sizeLine_eq]; omega, fun h' hd hs => ?_⟩
  exact .mk (O.same u hs (dictP_of hd)) x
theorem Sw.newDict {c : Cl} {pos : Pos} (x : ∀ r, Φ (.ref r) (c :: .o r (dictP B.w []) :: σ)) : Sw B A (eval (.Dict [] [] pos) env) Φ Ψ (c :: σ) := fun h g d k O =>
  wpAny_Dict_empty (.mk (O.push2 rfl (by
    obtain ⟨o, ho, hp⟩ := dictP_of (Heap.DictOf.new (knd := PySem.strKind prog B.w) h)
    have := Heap.get?_push_size h (o := { cls := .type "dict", data := .dict #[] }) rfl
    rw [this] at ho
    cases ho
    exact hp)) (x _))
theorem Sw.lenL {l : Addr} {vs : List Value} (m : Cl.o l (listP vs) ∈ σ) (hl : vs.length < 100000) (x : ∀ k, Φ (.int vs.length k) σ) : Sw B A (PySem.call (.builtin "len") [.ref l]) Φ Ψ σ := fun h g d k O =>
  call_len_list (isList_of (O.get m)) (by simp; omega) (by simpa using (PA.mk O (x _)))
theorem Sw.lenD {d : Addr} {kvs : List (Str × Value)} (m : Cl.o d (dictP B.w kvs) ∈ σ) (hd : (d == sysModules) = false) (hl : kvs.length < 100000) (x : ∀ k, Φ (.int kvs.length k) σ) : Sw B A (PySem.call (.builtin "len") [.ref d]) Φ Ψ σ := fun h g dr k O =>
  call_len_dict (knd := PySem.strKind prog B.w) hd (dictOf_of (O.get m)) (by omega) (.mk O (x _))
theorem Sw.startsw {a b : Str} {j k : Tok} (x : Φ (.bool (Txt.startswith a b)) σ) : Sw B A (PySem.call (.builtin "str.startswith") [.str a j, .str b k]) Φ Ψ σ := fun h g d tk O =>
  PySem.SC.startswith (.mk O x)
end
end

-- M2
section
-- a comprehension's scope, its free names that are cells of the frame outside marked so
def relS (scope outer : Scope) : Scope :=
  { scope with names := scope.names.map fun (n, k) => if (k == .free && outer.kind == .function && outer.names.lookup n == some .cell) then (n, .cell) else (n, k) }
theorem relabel_eq {scope outer : Scope} {env : Env} (e : env.scope = outer) : relabel scope env = relS scope outer := by subst e; rfl
abbrev lc (elt : Expr) (target iter : Expr) (scope : Scope) (pos : Pos) : Expr := .ListComp elt [⟨target, iter, [], 0⟩] scope pos
structure CompOk (env : Env) (scope : Scope) (cl : List (Str × Addr)) (ks fs : List Str) : Prop where
  clos : closureFor scope env = Pure.pure cl
  cell : ∀ y ∈ scope.names, y.2 ≠ .cell
  kind : scope.kind = .function
  names : ∀ y ∈ scope.names, y.2 = .local → scope.names.lookup y.1 = some .local
  env : ∀ C, EnvOk (compEnvC scope cl C env) ks fs
theorem FV.none {es : Array DictEntry} : ∀ {ks : List Str}, (∀ x ∈ ks, nsFind es x = Option.none) → FV es ks (ks.map fun _ => Option.none)
  | [], _ => trivial
  | k :: ks, h => ⟨h k (.head _), FV.none fun x hx => h x (.tail _ hx)⟩
section
variable {B : Bx} {A : Around} {Ψ : Value → SH → Prop} {σ τ S R T : SH} {env : Env}
theorem Sc.comp1 {elt target iter : Expr} {scope : Scope} {pos : Pos} {it acc : Value} {cenv : Env} {R : Result → SH → Prop}
    (x : Sw B A (pyNext it) (fun r τ => match r with
      | .none => R (.ok .next) τ
      | .some v => Sw B A (letOwnedTupleGo target it v) (fun _ τ => Sw B A (assign target cenv v) (fun _ τ => Sw B A (eval elt cenv) (fun x τ => Sw B A (PySem.call (.builtin "list.append") [acc, x])
          (fun _ τ => Sc B A (.compLoop (lc elt target iter scope pos) 0 it acc cenv) R τ) NoE τ) NoE τ) NoE τ) NoE τ) NoE σ) : Sc B A (.compLoop (lc elt target iter scope pos) 0 it acc cenv) R σ := fun h g d k O => by
  refine codeAny_of_tree ?_
  rw [Around.under_of_weight (c := .compLoop (lc elt target iter scope pos) 0 it acc cenv) rfl rfl]
  show wpAny B.M A ((compTurn (.ListComp elt [⟨target, iter, [], 0⟩] scope pos) 0 it acc cenv).onRaise (fun x => do noteFrame x cenv; theTreesLotGoes x)) _ _ _
  refine wpAny_onRaise ?_
  rw [compTurn_list1]
  refine wpAny_bind (wpAny_standAt (wpAny_bind (wpAny_mono (x h g d k O) (fun r s₁ h₁ => ?_) fun _ _ q => q.none)))
  obtain ⟨τ, O, e, q⟩ := h₁
  obtain ⟨h, g, d, k, os⟩ := s₁
  cases e
  cases r with
  | none => exact wpAny_pure (.mk O q)
  | some v =>
    refine wpAny_bind (wpAny_mono (q h g d k O) (fun _ s₂ q => wpAny_bind (wpAny_mono q.bind (fun _ s₃ q => wpAny_bind (wpAny_bind (wpAny_mono q.bind (fun x s₄ q => wpAny_bind (wpAny_mono q.bind (fun _ s₅ q => ?_) fun _ _ q => q.none)) fun _ _ q => q.none))) fun _ _ q => q.none)) fun _ _ q => q.none)
    obtain ⟨τ, O, e, q⟩ := q
    obtain ⟨h, g, d, k, os⟩ := s₅
    cases e
    exact wpAny_pure (wpAny_pure ⟨rfl, q h g d k O⟩)
-- what the loop is to come to
abbrev cstate (C acc : Addr) (ks : List Str) (τ : SH) : SH := .o C (frameP ks (ks.map fun _ => none)) :: .o acc (listP []) :: τ
theorem frameP_ns {h : Heap} {C : Addr} {ks : List Str} {vs : List (Option Value)} (x : ∃ o, h.get? C = some o ∧ frameP ks vs o) : ∃ m, h.Ns C m := by
  obtain ⟨o, ho, es, ep, hd, hk, hf⟩ := x
  exact ⟨_, o, es, ep, ho, hd, hk, fun _ => rfl⟩
theorem comp_block {elt iter target : Expr} {scope : Scope} {pos : Pos} {cl : List (Str × Addr)} {ks fs : List Str} {it : Value} {RR : Value → Addr → Result → Shared → Prop} {E : Value → Shared → Prop} (K : CompOk env scope cl ks fs)
    (x : ∀ acc C, Sw B A (pyIter it) (fun it' τ' => it' = it ∧ τ' = cstate C acc ks σ) NoE (cstate C acc ks σ) ∧ Sc B A (.compLoop (lc elt target iter scope pos) 0 it (.ref acc) (compEnvC scope cl C env)) (fun r τ => ∀ h g d k, Own B.w B.G h g τ → RR (.ref acc) C r ⟨h, g, d, k, B.os⟩) (cstate C acc ks σ))
    {h : Heap} {g : Array GenState} {d : Drawn} {k : Tok} (O : Own B.w B.G h g σ) :
    wpAny B.M A (newList []) (fun acc s₃ => wpAny B.M A (newFunctionEnv scope env.globals cl [] env.qual none .none (some env)) (fun cenv s₄ =>
      codeAny B.M A (.compStart (lc elt target iter scope pos) 0 it acc { cenv with scope := relabel scope env }) (RR acc cenv.locals) s₄) E s₃) E ⟨h, g, d, k, B.os⟩ := by
  refine wpAny_newObj_type (wpAny_newFunctionEnv K.cell (by intro y hy; simp at hy) (fun h₁ hns₁ hsb₁ => ?_) K.kind)
  have O1 := O.push (o := { cls := .type "list", dict := none, data := .seq ([] : List Value).toArray }) rfl (P := listP []) ⟨0, rfl⟩
  have O2 := O1.push (o := { cls := .type "dict", data := .dict #[] }) rfl (P := fun _ => True) trivial
  obtain ⟨o', es, ep, ho, hd, hk, he⟩ := hns₁
  have O3 : Own B.w B.G h₁ g (cstate (h.push { cls := .type "list", dict := none, data := .seq ([] : List Value).toArray }).objs.size h.objs.size ks σ) := O2.same .head hsb₁ ⟨o', ho, es, ep, hd, hk, FV.none fun x _ => by rw [he x]; rfl⟩
  obtain ⟨x1, x2⟩ := x h.objs.size (h.push { cls := .type "list", dict := none, data := .seq ([] : List Value).toArray }).objs.size
  have goL : ∀ (h : Heap) (g : Array GenState) (d : Drawn) (k : Tok), Own B.w B.G h g (cstate _ _ ks σ) → codeAny B.M A (.compLoop (lc elt target iter scope pos) 0 it (.ref _) (compEnvC scope cl _ env)) (RR (.ref _) _) ⟨h, g, d, k, B.os⟩ := fun h g d k O =>
    codeAny_mono (x2 h g d k O) fun r s q => by
      obtain ⟨τ, O, e, q⟩ := q
      obtain ⟨h, g, d, k, os⟩ := s
      cases e
      exact q h g d k O
  refine codeAny_compStart_list (goL _ _ _ _ O3) ?_
  refine wpAny_mono (x1 _ _ _ _ O3) (fun it' s q => ?_) fun _ _ q => q.none
  obtain ⟨τ, O, e, rfl, rfl⟩ := q
  obtain ⟨h, g, d, k, os⟩ := s
  cases e
  exact goL h g d k O
theorem Own.offC {w : World} {G h h' : Heap} {g : Array GenState} {C : Addr} {P : Obj → Prop} (O : Own w G h g (.o C P :: σ)) (hs : Heap.SameBut C h h') : Own w G h' g σ := O.extDel .head hs.extBut
theorem Sw.listComp {elt iter : Expr} {x : Str} {px : Pos} {scope : Scope} {pos : Pos} {cl : List (Str × Addr)} {ks fs : List Str} {Φ : Value → SH → Prop} (K : CompOk env scope cl ks fs)
    (y : Sw B A (eval iter env) (fun xv τ => Sw B A (pyIter xv) (fun it τ => ∀ acc C, Sw B A (pyIter it) (fun it' τ' => it' = it ∧ τ' = cstate C acc ks τ) NoE (cstate C acc ks τ) ∧
      Sc B A (.compLoop (lc elt (.Name x px) iter scope pos) 0 it (.ref acc) (compEnvC scope cl C env)) (fun r τ' => r = .ok .next ∧ ∃ vs τ1, Subp (.o C (frameP ks vs) :: τ1) τ' ∧ Φ (.ref acc) τ1) (cstate C acc ks τ)) Ψ τ) Ψ σ)
    (hs : ∀ x, foldedSetIterable iter env x = Pure.pure x := by intro _; with_unfolding_all rfl) : Sw B A (eval (lc elt (.Name x px) iter scope pos) env) Φ Ψ σ := fun h g d k O => by
  rw [eval_ListComp]
  refine wpAny_comprehension_free (use := none) rfl hs K.clos K.kind K.names (wpAny_mono (y h g d k O) (fun xv s₁ q => wpAny_mono q.bind (fun it s₂ q => ?_) fun _ _ q => q) fun _ _ q => q)
  obtain ⟨τ, O, e, q⟩ := q
  obtain ⟨h, g, d, k, os⟩ := s₂
  cases e
  refine comp_block (RR := fun acc C => compPost B.M A (PA B Ψ) none (PA B Φ) acc C) K (fun acc C => ⟨(q acc C).1, ?_⟩) O
  intro h g d k O
  refine codeAny_mono ((q acc C).2 h g d k O) fun r s q => ?_
  obtain ⟨τ, O, e, rfl, vs, τ1, hs, q⟩ := q
  refine ⟨τ, O, e, fun h g d k O => ?_⟩
  have O' := O.subp hs
  obtain ⟨m, hm⟩ := frameP_ns (O'.get (.head _))
  exact ⟨m, hm, fun h' hs' => .mk (O'.offC hs') q⟩
theorem swaps_comp {elt tgt iter : Expr} {scope : Scope} {pos pz : Pos} {z : Str} {line : Nat} {lks lfs : List Str} (E : EnvOk env lks lfs) (hz : z ∈ lks) (h : (pz.line == pos.line && !(scope.names.any fun p => p.1 == z && (p.2 == .local || p.2 == .cell))) = true) :
    swapsWith (lc elt tgt iter scope pos) (some (.Name z pz)) line env = Pure.pure true := by
  have h1 : env.blockKind = .function := by unfold Env.blockKind; rw [E.kind]; rfl
  have h2 : env.kindOf z = some .local := (E.loc z hz).1
  show (Pure.pure (env.blockKind == .function && env.kindOf z == some .local && pz.line == pos.line && !(scope.names.any fun (n, k) => n == z && (k == .local || k == .cell))) : Sem Bool) = _
  rw [h1, h2]
  have h3 : (ScopeKind.function == ScopeKind.function && some NameKind.local == some NameKind.local && pz.line == pos.line && !(scope.names.any fun (n, k) => n == z && (k == .local || k == .cell))) = true := h
  rw [h3]
theorem Sw.s_Assign_Comp {elt iter : Expr} {x z : Str} {px pz : Pos} {scope : Scope} {pos spos : Pos} {cl : List (Str × Addr)} {ks fs lks lfs : List Str} {Φ : Flow → SH → Prop} (K : CompOk env scope cl ks fs) (E : EnvOk env lks lfs)
    (y : Sw B A (eval iter env) (fun xv τ => Sw B A (pyIter xv) (fun it τ => ∀ acc C, Sw B A (pyIter it) (fun it' τ' => it' = it ∧ τ' = cstate C acc ks τ) NoE (cstate C acc ks τ) ∧
      Sc B A (.compLoop (lc elt (.Name x px) iter scope pos) 0 it (.ref acc) (compEnvC scope cl C env)) (fun r τ' => r = .ok .next ∧ ∃ vs lv lv' τ1, Subp (.o env.locals (frameP lks lv) :: .o C (frameP ks vs) :: τ1) τ' ∧ NPut z (.ref acc) lks lv lv' ∧ Φ .next (.o env.locals (frameP lks lv') :: τ1)) (cstate C acc ks τ)) Ψ τ) Ψ σ)
    (hz : z ∈ lks := by decide) (hsw : (pz.line == pos.line && !(scope.names.any fun p => p.1 == z && (p.2 == .local || p.2 == .cell))) = true := by decide +kernel)
    (hs : ∀ x, foldedSetIterable iter env x = Pure.pure x := by intro _; with_unfolding_all rfl) : Sw B A (exec (.Assign [.Name z pz] (lc elt (.Name x px) iter scope pos) spos) env) Φ Ψ σ := fun h g d k O => by
  rw [exec_Assign_Name_used _ _ _ _ (swaps_comp E hz hsw)]
  refine wpAny_bind (wpAny_standAt (wpAny_bind ?_))
  show wpAny _ A (do let _ ← comprehension (.ListComp elt [⟨.Name x px, iter, [], 0⟩] scope pos) scope env _ (PySem.newList []) false (eval iter env) (some (assign (.Name z pz) env))) _ _ _
  refine wpAny_bind (wpAny_mono (wpAny_comprehension_free (use := some (assign (.Name z pz) env)) (Q := fun _ => PA B Φ .next) rfl hs K.clos K.kind K.names
    (wpAny_mono (y h g d k O) (fun xv s₁ q => wpAny_mono q.bind (fun it s₂ q => ?_) fun _ _ q => q) fun _ _ q => q)) (fun _ s' hq => wpAny_pure (wpAny_pure hq)) fun _ _ e => e)
  obtain ⟨τ, O, e, q⟩ := q
  obtain ⟨h, g, d, k, os⟩ := s₂
  cases e
  refine comp_block (RR := fun acc C => compPost B.M A (PA B Ψ) (some (assign (.Name z pz) env)) (fun _ => PA B Φ .next) acc C) K (fun acc C => ⟨(q acc C).1, ?_⟩) O
  intro h g d k O
  refine codeAny_mono ((q acc C).2 h g d k O) fun r s q => ?_
  obtain ⟨τ, O, e, rfl, vs, lv, lv', τ1, hs, hp, q⟩ := q
  refine ⟨τ, O, e, fun h g d k O => ?_⟩
  have O' := O.subp hs
  show wpAny _ A (assign (.Name z pz) env (.ref acc)) _ _ _
  refine wpAny_mono (Sw.assign_Name (Sw.st (Φ := fun _ τ => τ = .o env.locals (frameP lks lv') :: .o C (frameP ks vs) :: τ1) (Ψ := NoE) E hp rfl) h g d k O') (fun _ s q => ?_) fun _ _ q => q.none
  obtain ⟨τ, O, e, rfl⟩ := q
  obtain ⟨h, g, d, k, os⟩ := s
  cases e
  obtain ⟨m, hm⟩ := frameP_ns (O.get (.tail _ (.head _)))
  refine ⟨m, hm, fun h' hs' => .mk (O.extDel (.tail .head) hs'.extBut) q⟩
end
end

-- K7
section
local macro_rules | `(tactic| walk_at "gl") => `(tactic| with_reducible first | exact g_names _ | exact g_words _ | exact g_walk _)
local macro_rules | `(tactic| walk_at "bl") => `(tactic| with_reducible first | exact b_enum)
local macro_rules | `(tactic| walk_at "k0") => `(tactic| (refine Sw.e_SubscriptA ?_; walk_at "py"; refine atKinds (by assumption) (fun c hc => by walk_at "mem") (by assumption) (by assumption) ?_; walk_at "py"; refine at0 (by assumption) (fun c hc => by walk_at "mem") (by assumption) ?_; walk_at "py"; refine Sw.eqI ?_; walk_at "py"))
local macro_rules | `(tactic| walk_at "subl") => `(tactic| (refine Subp.of_cnt fun _ => ?_; simp only [cnt_append, cnt_cons, cnt_nil, lwVs]; omega))
def lwFor : Stmt := ((fnBody (topStmt 20))[4]?).getD (.Pass default)
-- the top's words and names
@[reducible] def lwNames : List Value := [.str (Str.ofString "b") 630, .str (Str.ofString "") 631, .str (Str.ofString "a") 632]
theorem names_at (w : World) : (KF w).lookup 194 = some { cls := .type "tuple", data := .seq lwNames.toArray 0 } := by kernel_rfl
@[reducible] def lwWords : List Value := [.ref 187, .ref 188, .ref 189, .ref 190, .ref 191, .ref 192]
theorem words_at (w : World) : (KF w).lookup 193 = some { cls := .type "tuple", data := .seq lwWords.toArray 0 } := by kernel_rfl
@[reducible] def lwWord : Nat → List Value
  | 0 => [.none, .str (Str.ofString "null") 618]
  | 1 => [.int 7 619, .str (Str.ofString "7") 620]
  | 2 => [.str (Str.ofString "a\"") 621, .str (Str.ofString "\"a\\\"\"") 622]
  | 3 => [.bool true, .str (Str.ofString "true") 623]
  | 4 => [.int (-12) 625, .str (Str.ofString "-12") 626]
  | _ => [.str (Str.ofString "") 627, .str (Str.ofString "\"\"") 628]
theorem word_at (w : World) : ∀ j, j < 6 → (KF w).lookup (187 + j) = some { cls := .type "tuple", data := .seq (lwWord j).toArray 0 }
  | 0, _ => by kernel_rfl
  | 1, _ => by kernel_rfl
  | 2, _ => by kernel_rfl
  | 3, _ => by kernel_rfl
  | 4, _ => by kernel_rfl
  | 5, _ => by kernel_rfl
  | n + 6, h => absurd h (by omega)
theorem lwWord_text : ∀ j, j < 6 → ∃ k, (lwWord j)[1]? = some (.str (wordT j) k)
  | 0, _ => ⟨_, rfl⟩
  | 1, _ => ⟨_, rfl⟩
  | 2, _ => ⟨_, rfl⟩
  | 3, _ => ⟨_, rfl⟩
  | 4, _ => ⟨_, rfl⟩
  | 5, _ => ⟨_, rfl⟩
  | n + 6, h => absurd h (by omega)
theorem lwNames_at : ∀ j, j < 3 → ∃ k, lwNames[j]? = some (.str (nameK j) k)
  | 0, _ => ⟨_, rfl⟩
  | 1, _ => ⟨_, rfl⟩
  | 2, _ => ⟨_, rfl⟩
  | n + 3, h => absurd h (by omega)
theorem lwWords_at : ∀ j, j < 6 → lwWords[j]? = some (.ref (187 + j))
  | 0, _ => rfl
  | 1, _ => rfl
  | 2, _ => rfl
  | 3, _ => rfl
  | 4, _ => rfl
  | 5, _ => rfl
  | n + 6, h => absurd h (by omega)
theorem wordT_len : ∀ j, (wordT j).length ≤ 5
  | 0 => by decide
  | 1 => by decide
  | 2 => by decide
  | 3 => by decide
  | 4 => by decide
  | _ + 5 => by show (Str.ofString "\"\"").length ≤ 5; decide
theorem nameK_len : ∀ j, (nameK j).length ≤ 1
  | 0 => by decide
  | 1 => by decide
  | _ + 2 => by show (Str.ofString "a").length ≤ 1; decide
theorem IntsAre.get : ∀ {vs : List Value} {ns : List Int}, IntsAre vs ns → ∀ {i : Nat} {n : Int}, ns[i]? = some n → ∃ k, vs[i]? = some (.int n k)
  | _, _, .cons m k h, 0, n, e => by simp at e; subst e; exact ⟨k, rfl⟩
  | _, _, .cons m k h, i + 1, n, e => by simpa using IntsAre.get h (i := i) (by simpa using e)

section
variable {B : Bx} {A : Around} {Ψ : Value → SH → Prop} {σ τ S R T : SH} {env : Env} {Φ : Flow → SH → Prop} {t : Th} {K : Kd}
theorem Sw.shrinkN {α : Type} {t : Sem α} {Φ : α → SH → Prop} (x : Sw B A t (fun a τ => ∃ τ', Subp τ' τ ∧ Φ a τ') NoE σ) : Sw B A t Φ NoE σ := Sw.shrink (x.mono (fun _ _ q => q) fun _ _ q => q.elim)
theorem IntsAre.append : ∀ {vs ws : List Value} {ns ms : List Int}, IntsAre vs ns → IntsAre ws ms → IntsAre (vs ++ ws) (ns ++ ms)
  | _, _, _, _, .nil, h => h
  | _, _, _, _, .cons n k h, h' => .cons n k (IntsAre.append h h')
theorem Sw.addT1 {a b : Addr} {vs ws : List Value} {c : Cl} {Φ : Value → SH → Prop} (m1 : Cl.o a (tupP vs) ∈ c :: σ) (m2 : Cl.o b (tupP ws) ∈ c :: σ) (hl : vs.length + ws.length < 10000) (hw : ws ≠ [])
    (x : ∀ r ρ, Cl.o r (tupP (vs ++ ws)) ∈ c :: (ρ ++ σ) → Φ (.ref r) (c :: (ρ ++ σ))) : Sw B A (binaryOp .Add (.ref a) (.ref b)) Φ Ψ (c :: σ) :=
  Sw.addT m1 m2 hl hw (fun h => x b [] (by subst h; exact m2)) fun _ r => x r [.o r (tupP (vs ++ ws))] (.tail _ (.head _))
-- the last part of a turn: the word or the thing
theorem lw_turnD {ind : Option Str} {i deep C j : Nat} {way : List Nat} {ki kd k0 kj kq kt : Tok} {w : Addr} {wvs : List Value} {text : Str} {lv : Option Value} {q : Int} {g : Nat → Str × Bool} {pm pr : Option Value}
    (E : EnvOk env lwKs []) (GE : GlbOk env lwGs) (hh : A.handled = none) (hC : C ≤ 20000) (hlen : text.length ≤ 300000) (hq : -6 ≤ q ∧ q < t.sz)
    (mw : Cl.o w (tupP wvs) ∈ σ) (hw : IntsAre wvs (way.map Int.ofNat)) (hwl : way.length ≤ 10) (hg : ∀ j, j < t.sz → (g j).1.length ≤ C)
    (hcall : ∀ (j : Nat), j < t.sz → ∀ (k1 k2 : Tok) (w' : Addr) (wvs' : List Value) (c : Cl) (ρ : SH) (Φ : Value → SH → Prop), (∀ x ∈ σ, x ∈ ρ) → Cl.o w' (tupP wvs') ∈ c :: ρ → IntsAre wvs' ((way ++ [i]).map Int.ofNat) →
      (∀ k b ρ', Φ (.ref b) (c :: .o b (tupP [.str (g j).1 k, .bool (g j).2]) :: (ρ' ++ ρ))) → Sw B A (PySem.call (.ref 201) [.ref K.kl, .int j k1, .int ((deep : Int) + 1) k2, .ref w', indV ind k0]) Φ NoE (c :: ρ))
    (y1 : q < 0 → ∀ k, Φ .next (.o env.locals (frameP lwKs (lwVs K i ki deep kd w (indV ind k0) lv (some (.str (text ++ wordT (wix q)) k)) (some (.int j kj)) (some (.int q kq)) pm pr)) :: σ))
    (y2 : 0 ≤ q → (g q.toNat).2 = false → ∀ k pm pr ρ', Φ .next (.o env.locals (frameP lwKs (lwVs K i ki deep kd w (indV ind k0) lv (some (.str (text ++ (g q.toNat).1) k)) (some (.int j kj)) (some (.int q kq)) pm pr)) :: (ρ' ++ σ)))
    (y3 : 0 ≤ q → (g q.toNat).2 = true → ∀ k b ρ', Φ (.ret (.ref b)) (.o b (tupP [.str (text ++ (g q.toNat).1) k, .bool true]) :: (ρ' ++ σ))) :
    Sw B A (execs ((forBdy lwFor).drop 3) env) Φ NoE (.o env.locals (frameP lwKs (lwVs K i ki deep kd w (indV ind k0) lv (some (.str text kt)) (some (.int j kj)) (some (.int q kq)) pm pr)) :: σ) := by
  refine Sw.shrinkN ?_
  refine Sw.execs_cons (Sw.s_If ?_)
  walk_at "py"
  refine Sw.ltI ?_
  refine Sw.truthy_bool ?_
  by_cases h : q < 0
  · rw [decide_eq_true h]
    walk_at "py"
    refine Sw.e_SubscriptA ?_
    walk_at "py"
    refine Sw.negI ?_
    intro k1
    walk_at "py"
    refine Sw.subI ?_
    intro k2
    have hwx : (-1 - q).toNat < 6 := by omega
    refine atK (words_at B.w) rfl rfl (by omega) (by omega) (lwWords_at _ hwx) ?_
    walk_at "py"
    obtain ⟨kw, hkw⟩ := lwWord_text _ hwx
    refine atK (word_at B.w _ hwx) rfl rfl (by decide) (by decide) hkw ?_
    walk_at "py"
    refine Sw.iaddStr ?_ (by rw [sizeLine_eq]; have := wordT_len (-1 - q).toNat; omega)
    intro k3
    walk_at "py"
    exact ⟨_, .refl _, y1 h k3⟩
  · rw [decide_eq_false h]
    walk_at "py"
    have hq0 : 0 ≤ q := Int.not_lt.mp h
    obtain ⟨jq, hjq⟩ : ∃ jq : Nat, q = (jq : Int) := ⟨q.toNat, by omega⟩
    have hj : jq < t.sz := by omega
    have hjn : q.toNat = jq := by omega
    refine Sw.s_Assign_Tuple ?_
    walk_at "py"
    refine Sw.addI ?_
    intro k1
    walk_at "py"
    refine Sw.e_Tuple ?_
    walk_at "py"
    refine ⟨by show (1 : Nat) < 100000; decide, _, _, rfl, fun tl => ?_⟩
    refine Sw.addT1 (vs := wvs) (ws := [.int i ki]) (by walk_at "mem") (by walk_at "mem") (by have := hw.length; simp at this ⊢; omega) (by simp) fun w' ρ hw' => ?_
    walk_at "py"
    refine ⟨callee_K rfl rfl, ?_⟩
    subst hjq
    refine hcall jq hj kq k1 w' (wvs ++ [.int i ki]) _ _ _ (fun x hx => List.mem_append_right _ (.tail _ hx)) hw' (by rw [List.map_append]; exact hw.append (.cons _ _ .nil)) fun k2 b ρ' => ?_
    refine Sw.assign_pair (v1 := .str (g jq).1 k2) (v2 := .bool (g jq).2) hh (by walk_at "mem") ?_
    walk_at "py"
    refine Sw.iaddStr ?_ (by rw [sizeLine_eq]; have := hg jq hj; omega)
    intro k3
    walk_at "py"
    rw [hjn] at y2 y3
    cases hr : (g jq).2 with
    | false =>
      walk_at "py"
      exact ⟨_, by walk_at "subl", y2 hq0 hr k3 (some (.str (g jq).1 k2)) (some (.bool false)) (.o b (tupP [.str (g jq).1 k2, .bool false]) :: (ρ' ++ (ρ ++ [.o tl (tupP [.int i ki])])))⟩
    | true =>
      walk_at "py"
      refine Sw.e_Tuple ?_
      walk_at "py"
      refine ⟨by show (2 : Nat) < 100000; decide, _, _, rfl, fun b2 => ?_⟩
      exact ⟨_, by walk_at "subl", y3 hq0 hr k3 b2 []⟩
end
end

-- K8
section
local macro_rules | `(tactic| walk_at "gl") => `(tactic| with_reducible first | exact g_names _ | exact g_words _ | exact g_walk _)
local macro_rules | `(tactic| walk_at "bl") => `(tactic| with_reducible first | exact b_enum)
local macro_rules | `(tactic| walk_at "subl") => `(tactic| (refine Subp.of_cnt fun _ => ?_; simp only [cnt_append, cnt_cons, cnt_nil, lwVs]; omega))
def wpre2 (isD : Bool) (line : Str) (j : Nat) (text : Str) : Str := if isD then (text ++ line) ++ ((Str.ofString "\"" ++ nameK j) ++ Str.ofString "\": ") else text ++ line
theorem wpre2_len {isD : Bool} {line text : Str} {j : Nat} : (wpre2 isD line j text).length ≤ text.length + line.length + 5 := by
  unfold wpre2
  have h1 := nameK_len j
  split
  · rw [str_len, str_len, str_len, str_len]
    have e1 : (Str.ofString "\"").length = 1 := by decide
    have e2 : (Str.ofString "\": ").length = 3 := by decide
    omega
  · rw [str_len]; omega
section
variable {B : Bx} {A : Around} {Ψ : Value → SH → Prop} {σ τ S R T : SH} {env : Env} {Φ : Flow → SH → Prop} {t : Th} {K : Kd}
-- what a call of the walk itself is to give
def WCall (B : Bx) (A : Around) (K : Kd) (t : Th) (g : Nat → Str × Bool) (deep : Nat) (way : List Nat) (indv : Value) (σ : SH) : Prop :=
  ∀ (j : Nat), j < t.sz → ∀ (k1 k2 : Tok) (w' : Addr) (wvs' : List Value) (c : Cl) (ρ : SH) (Φ : Value → SH → Prop), (∀ x ∈ σ, x ∈ ρ) → Cl.o w' (tupP wvs') ∈ c :: ρ → IntsAre wvs' (way.map Int.ofNat) →
      (∀ k b ρ', Φ (.ref b) (c :: .o b (tupP [.str (g j).1 k, .bool (g j).2]) :: (ρ' ++ ρ))) → Sw B A (PySem.call (.ref 201) [.ref K.kl, .int j k1, .int ((deep : Int) + 1) k2, .ref w', indv]) Φ NoE (c :: ρ)
theorem WCall.mono {g : Nat → Str × Bool} {deep : Nat} {way : List Nat} {indv : Value} {σ' : SH} (x : WCall B A K t g deep way indv σ) (h : ∀ c ∈ σ, c ∈ σ') : WCall B A K t g deep way indv σ' :=
  fun j hj k1 k2 w' wvs' c ρ Φ h1 h2 h3 h4 => x j hj k1 k2 w' wvs' c ρ Φ (fun y hy => h1 y (h y hy)) h2 h3 h4
theorem lw_turnB {ind : Option Str} {i deep C j : Nat} {way : List Nat} {ki kd k0 kj kq kt kl : Tok} {w : Addr} {wvs : List Value} {line text : Str} {q : Int} {g : Nat → Str × Bool} {pm pr : Option Value}
    (E : EnvOk env lwKs []) (GE : GlbOk env lwGs) (hh : A.handled = none) (kok : KdOk K t σ) (hi : i < t.sz) (hsz : t.sz ≤ 3) (hj : j < 3) (hC : C ≤ 20000) (hlen : text.length ≤ 250000) (hline : line.length ≤ 300) (hq : -6 ≤ q ∧ q < t.sz)
    (mw : Cl.o w (tupP wvs) ∈ σ) (hw : IntsAre wvs (way.map Int.ofNat)) (hwl : way.length ≤ 10) (hg : ∀ j, j < t.sz → (g j).1.length ≤ C)
    (hcall : WCall B A K t g deep (way ++ [i]) (indV ind k0) σ)
    (y1 : q < 0 → ∀ k, Φ .next (.o env.locals (frameP lwKs (lwVs K i ki deep kd w (indV ind k0) (some (.str line kl)) (some (.str (wpre2 (t.isD i) line j text ++ wordT (wix q)) k)) (some (.int j kj)) (some (.int q kq)) pm pr)) :: σ))
    (y2 : 0 ≤ q → (g q.toNat).2 = false → ∀ k pm pr ρ', Φ .next (.o env.locals (frameP lwKs (lwVs K i ki deep kd w (indV ind k0) (some (.str line kl)) (some (.str (wpre2 (t.isD i) line j text ++ (g q.toNat).1) k)) (some (.int j kj)) (some (.int q kq)) pm pr)) :: (ρ' ++ σ)))
    (y3 : 0 ≤ q → (g q.toNat).2 = true → ∀ k b ρ', Φ (.ret (.ref b)) (.o b (tupP [.str (wpre2 (t.isD i) line j text ++ (g q.toNat).1) k, .bool true]) :: (ρ' ++ σ))) :
    Sw B A (execs ((forBdy lwFor).drop 1) env) Φ NoE (.o env.locals (frameP lwKs (lwVs K i ki deep kd w (indV ind k0) (some (.str line kl)) (some (.str text kt)) (some (.int j kj)) (some (.int q kq)) pm pr)) :: σ) := by
  refine Sw.execs_cons (Sw.s_AugAssign_Name ?_)
  walk_at "py"
  refine Sw.iaddStr ?_ (by rw [sizeLine_eq]; omega)
  intro k1
  refine Sw.st E (NPut.tail (.tail (.tail (.tail (.tail (.tail .head)))))) ?_
  refine Sw.execs_cons (Sw.s_If ?_)
  walk_at "py"
  refine Sw.e_SubscriptA ?_
  walk_at "py"
  refine atKinds kok (fun c hc => .tail _ hc) hi hsz ?_
  walk_at "py"
  refine at0 kok (fun c hc => .tail _ hc) hi ?_
  walk_at "py"
  refine Sw.eqI ?_
  walk_at "py"
  unfold wpre2 at y1 y2 y3
  have hlt : (text ++ line).length ≤ 250300 := by rw [str_len]; omega
  cases hd : t.isD i with
  | false =>
    rw [hd] at y1 y2 y3
    simp only [Bool.false_eq_true, if_false] at y1 y2 y3 ⊢
    refine ite_neg (by decide) (Sw.execs_nil ?_)
    exact lw_turnD E GE hh hC (by omega) hq mw hw hwl hg hcall y1 y2 y3
  | true =>
    rw [hd] at y1 y2 y3
    simp only [if_true] at y1 y2 y3 ⊢
    refine ite_pos (by decide) ?_
    walk_at "py"
    obtain ⟨kn, hkn⟩ := lwNames_at j hj
    refine atK (names_at B.w) rfl rfl (by omega) (by omega) hkn ?_
    have hn := nameK_len j
    have e1 : (Str.ofString "\"").length = 1 := by decide
    have e2 : (Str.ofString "\": ").length = 3 := by decide
    refine Sw.addStr ?_ (by rw [sizeLine_eq]; omega)
    intro k2
    walk_at "py"
    refine Sw.addStr ?_ (by simp only [sizeLine_eq, str_len]; omega)
    intro k3
    walk_at "py"
    refine Sw.iaddStr ?_ (by simp only [sizeLine_eq, str_len]; omega)
    intro k4
    refine Sw.st E (NPut.tail (.tail (.tail (.tail (.tail (.tail .head)))))) ?_
    refine Sw.execs_nil ?_
    exact lw_turnD E GE hh hC (by simp only [str_len]; omega) hq mw hw hwl hg hcall y1 y2 y3
end
end

-- K9
section
local macro_rules | `(tactic| walk_at "gl") => `(tactic| with_reducible first | exact g_names _ | exact g_words _ | exact g_walk _)
local macro_rules | `(tactic| walk_at "bl") => `(tactic| with_reducible first | exact b_enum)
local macro_rules | `(tactic| walk_at "subl") => `(tactic| (refine Subp.of_cnt fun _ => ?_; simp only [cnt_append, cnt_cons, cnt_nil, lwVs]; omega))
section
variable {B : Bx} {A : Around} {Ψ : Value → SH → Prop} {σ τ S R T : SH} {env : Env} {t : Th} {K : Kd}
theorem lw_turn {ind : Option Str} {i deep C j : Nat} {way : List Nat} {ki kd k0 kj kq kt kl : Tok} {w : Addr} {wvs : List Value} {line text : Str} {q : Int} {g : Nat → Str × Bool} {pm pr : Option Value} {Φ : Flow → SH → Prop}
    (E : EnvOk env lwKs []) (GE : GlbOk env lwGs) (hh : A.handled = none) (kok : KdOk K t σ) (hi : i < t.sz) (hsz : t.sz ≤ 3) (hj : j < 3) (hC : C ≤ 20000) (hlen : text.length ≤ 240000) (hline : line.length ≤ 300) (hq : -6 ≤ q ∧ q < t.sz)
    (mw : Cl.o w (tupP wvs) ∈ σ) (hw : IntsAre wvs (way.map Int.ofNat)) (hwl : way.length ≤ 10) (hg : ∀ j, j < t.sz → (g j).1.length ≤ C)
    (hcall : WCall B A K t g deep (way ++ [i]) (indV ind k0) σ)
    (y1 : q < 0 → ∀ k, Φ .next (.o env.locals (frameP lwKs (lwVs K i ki deep kd w (indV ind k0) (some (.str line kl)) (some (.str (wpre2 (t.isD i) line j (if j > 0 then text ++ sepI ind else text) ++ wordT (wix q)) k)) (some (.int j kj)) (some (.int q kq)) pm pr)) :: σ))
    (y2 : 0 ≤ q → (g q.toNat).2 = false → ∀ k pm pr ρ', Φ .next (.o env.locals (frameP lwKs (lwVs K i ki deep kd w (indV ind k0) (some (.str line kl)) (some (.str (wpre2 (t.isD i) line j (if j > 0 then text ++ sepI ind else text) ++ (g q.toNat).1) k)) (some (.int j kj)) (some (.int q kq)) pm pr)) :: (ρ' ++ σ)))
    (y3 : 0 ≤ q → (g q.toNat).2 = true → ∀ k b ρ', Φ (.ret (.ref b)) (.o b (tupP [.str (wpre2 (t.isD i) line j (if j > 0 then text ++ sepI ind else text) ++ (g q.toNat).1) k, .bool true]) :: (ρ' ++ σ))) :
    Sw B A (execs (forBdy lwFor) env) Φ NoE (.o env.locals (frameP lwKs (lwVs K i ki deep kd w (indV ind k0) (some (.str line kl)) (some (.str text kt)) (some (.int j kj)) (some (.int q kq)) pm pr)) :: σ) := by
  refine Sw.execs_cons (Sw.s_If ?_)
  walk_at "py"
  refine Sw.gtI ?_
  refine Sw.truthy_bool ?_
  by_cases h : j > 0
  · rw [decide_eq_true (by omega)]
    rw [if_pos h] at y1 y2 y3
    walk_at "py"
    cases ind with
    | none =>
      refine Sw.is_plain rfl ?_
      refine Sw.truthy_bool ?_
      refine ite_pos (by rfl) ?_
      walk_at "py"
      refine Sw.iaddStr ?_ (by rw [sizeLine_eq]; have : (Str.ofString ", ").length = 2 := by decide
                               omega)
      intro k1
      refine Sw.st E (NPut.tail (.tail (.tail (.tail (.tail (.tail .head)))))) ?_
      refine Sw.execs_nil ?_
      exact lw_turnB E GE hh kok hi hsz hj hC (by rw [str_len]; have : (Str.ofString ", ").length = 2 := by decide
                                                  omega) hline hq mw hw hwl hg hcall y1 y2 y3
    | some s =>
      refine Sw.is_plain rfl ?_
      refine Sw.truthy_bool ?_
      refine ite_neg (by rw [show (indV (some s) k0 == Value.none) = false from rfl]; exact Bool.false_ne_true) ?_
      walk_at "py"
      refine Sw.iaddStr ?_ (by rw [sizeLine_eq]; have : (Str.ofString ",").length = 1 := by decide
                               omega)
      intro k1
      refine Sw.st E (NPut.tail (.tail (.tail (.tail (.tail (.tail .head)))))) ?_
      refine Sw.execs_nil ?_
      exact lw_turnB E GE hh kok hi hsz hj hC (by rw [str_len]; have : (Str.ofString ",").length = 1 := by decide
                                                  omega) hline hq mw hw hwl hg hcall y1 y2 y3
  · rw [decide_eq_false (by omega)]
    rw [if_neg h] at y1 y2 y3
    refine ite_neg Bool.false_ne_true (Sw.execs_nil ?_)
    exact lw_turnB E GE hh kok hi hsz hj hC (by omega) hline hq mw hw hwl hg hcall y1 y2 y3
theorem sepI_len (ind : Option Str) : (sepI ind).length ≤ 2 := by
  cases ind with
  | none => show (Str.ofString ", ").length ≤ 2; decide
  | some s => show (Str.ofString ",").length ≤ 2; decide
theorem lw_loop {ind : Option Str} {i deep C : Nat} {way : List Nat} {ki kd k0 : Tok} {w e it : Addr} {wvs : List Value} {line : Str} {kl : Tok} {g : Nat → Str × Bool} {Q : Result → SH → Prop}
    (E : EnvOk env lwKs []) (GE : GlbOk env lwGs) (kok : KdOk K t σ) (to : t.Ok) (hi : i < t.sz) (hsz : t.sz ≤ 3) (hh : A.handled = none) (hC : C ≤ 20000) (hline : line.length ≤ 300)
    (mw : Cl.o w (tupP wvs) ∈ σ) (hw : IntsAre wvs (way.map Int.ofNat)) (hwl : way.length ≤ 10) (hg : ∀ j, j < t.sz → (g j).1.length ≤ C)
    (hcall : WCall B A K t g deep (way ++ [i]) (indV ind k0) σ) :
    ∀ (ps dn : List Int), t.pt i = dn ++ ps → ∀ (text : Str) (kt : Tok) (pj pp pm pr : Option Value) (ρ : SH), text.length + ps.length * (C + 400) ≤ 200000 →
      ((wparts g (t.isD i) (sepI ind) line ps dn.length text).2 = false → ∀ k pj pp pm pr ρ', Q (.ok .next) (.o env.locals (frameP lwKs (lwVs K i ki deep kd w (indV ind k0) (some (.str line kl)) (some (.str (wparts g (t.isD i) (sepI ind) line ps dn.length text).1 k)) pj pp pm pr)) :: (ρ' ++ σ))) →
      ((wparts g (t.isD i) (sepI ind) line ps dn.length text).2 = true → ∀ k b ρ', Q (.ok (.ret (.ref b))) (.o b (tupP [.str (wparts g (t.isD i) (sepI ind) line ps dn.length text).1 k, .bool true]) :: (ρ' ++ σ))) →
      Sc B A (.forLoop (forTgt lwFor) (.ref e) (forBdy lwFor) [] env) Q (.o env.locals (frameP lwKs (lwVs K i ki deep kd w (indV ind k0) (some (.str line kl)) (some (.str text kt)) pj pp pm pr)) :: .o e (enP it dn.length) :: .o it (liP (K.pl i) dn.length) :: (ρ ++ σ)) := by
  intro ps
  induction ps with
  | nil =>
    intro dn hdn text kt pj pp pm pr ρ hlen hok hring
    refine Sc.for1 ?_
    refine Sw.subp (τ := .o e (enP it dn.length) :: .o it (liP (K.pl i) dn.length) :: .o env.locals (frameP lwKs (lwVs K i ki deep kd w (indV ind k0) (some (.str line kl)) (some (.str text kt)) pj pp pm pr)) :: (ρ ++ σ)) ?_ (by walk_at "subl")
    refine Sw.enum_end (l := K.pl i) (vs := K.pv i) (i := dn.length) hh (.tail _ (List.mem_append_right _ (kok.parts i hi))) (by have := (kok.numb i hi).length; rw [hdn] at this; simp at this; exact List.getElem?_eq_none (by omega)) ?_
    refine Sw.execs_nil ?_
    exact hok rfl kt pj pp pm pr ρ
  | cons q ps ih =>
    intro dn hdn text kt pj pp pm pr ρ hlen hok hring
    have hqm : q ∈ t.pt i := by rw [hdn]; simp
    have hql := to.low i hi q hqm
    have hjl : dn.length < 3 := by have := to.len i hi; rw [hdn] at this; simp at this; omega
    obtain ⟨kq, hkq⟩ := (kok.numb i hi).get (i := dn.length) (n := q) (by rw [hdn]; simp)
    refine Sc.for1 ?_
    refine Sw.subp (τ := .o e (enP it dn.length) :: .o it (liP (K.pl i) dn.length) :: .o env.locals (frameP lwKs (lwVs K i ki deep kd w (indV ind k0) (some (.str line kl)) (some (.str text kt)) pj pp pm pr)) :: (ρ ++ σ)) ?_ (by walk_at "subl")
    refine Sw.next_enum (l := K.pl i) (vs := K.pv i) (v := .int q kq) (.tail _ (List.mem_append_right _ (kok.parts i hi))) hkq ?_
    intro tu kj
    refine Sw.go_enum ?_
    refine Sw.subp (τ := .o env.locals (frameP lwKs (lwVs K i ki deep kd w (indV ind k0) (some (.str line kl)) (some (.str text kt)) pj pp pm pr)) :: .o tu (tupP [.int dn.length kj, .int q kq]) :: .o e (enP it ((dn.length : Int) + 1)) :: .o it (liP (K.pl i) (dn.length + 1)) :: (ρ ++ σ)) ?_ (by walk_at "subl")
    refine Sw.assign_pair hh (by walk_at "mem") ?_
    refine Sw.assign_Name (Sw.st E (NPut.tail (.tail (.tail (.tail (.tail (.tail (.tail .head))))))) ?_)
    refine Sw.assign_Name (Sw.st E (NPut.tail (.tail (.tail (.tail (.tail (.tail (.tail (.tail .head)))))))) ?_)
    have hsub : ∀ c ∈ σ, c ∈ Cl.o tu (tupP [.int dn.length kj, .int q kq]) :: .o e (enP it ((dn.length : Int) + 1)) :: .o it (liP (K.pl i) (dn.length + 1)) :: (ρ ++ σ) := fun c hc => .tail _ (.tail _ (.tail _ (List.mem_append_right _ hc)))
    have hln : (dn ++ [q]).length = dn.length + 1 := by simp
    have htx : ∀ x : Str, (wpre2 (t.isD i) line dn.length (if dn.length > 0 then text ++ sepI ind else text) ++ x).length ≤ text.length + 310 + x.length := fun x => by
      have h1 := sepI_len ind
      have h2 := wpre2_len (isD := t.isD i) (line := line) (j := dn.length) (text := if dn.length > 0 then text ++ sepI ind else text)
      have h3 : (if dn.length > 0 then text ++ sepI ind else text).length ≤ text.length + 2 := by split <;> (try rw [str_len]) <;> omega
      rw [str_len]; omega
    have hm : (ps.length + 1) * (C + 400) = ps.length * (C + 400) + (C + 400) := by rw [Nat.succ_mul]
    rw [List.length_cons, hm] at hlen
    have go : ∀ (x : Str) (k : Tok) (pm pr : Option Value) (ρ2 : SH), x.length ≤ C + 80 →
        wparts g (t.isD i) (sepI ind) line (q :: ps) dn.length text = wparts g (t.isD i) (sepI ind) line ps (dn.length + 1) (wpre2 (t.isD i) line dn.length (if dn.length > 0 then text ++ sepI ind else text) ++ x) →
        Sc B A (.forLoop (forTgt lwFor) (.ref e) (forBdy lwFor) [] env) Q (.o env.locals (frameP lwKs (lwVs K i ki deep kd w (indV ind k0) (some (.str line kl)) (some (.str (wpre2 (t.isD i) line dn.length (if dn.length > 0 then text ++ sepI ind else text) ++ x) k)) (some (.int dn.length kj)) (some (.int q kq)) pm pr)) ::
          (ρ2 ++ (Cl.o tu (tupP [.int dn.length kj, .int q kq]) :: .o e (enP it ((dn.length : Int) + 1)) :: .o it (liP (K.pl i) (dn.length + 1)) :: (ρ ++ σ)))) := by
      intro x k pm pr ρ2 hx he
      rw [he] at hok hring
      have z := ih (dn ++ [q]) (by rw [hdn]; simp) (wpre2 (t.isD i) line dn.length (if dn.length > 0 then text ++ sepI ind else text) ++ x) k (some (.int dn.length kj)) (some (.int q kq)) pm pr (ρ2 ++ (Cl.o tu (tupP [.int dn.length kj, .int q kq]) :: ρ)) (by have := htx x; omega) (by rw [hln]; exact hok) (by rw [hln]; exact hring)
      have hc : ((dn.length + 1 : Nat) : Int) = (dn.length : Int) + 1 := rfl
      rw [hln, hc] at z
      intro h g d k O
      refine z h g d k (O.subp ?_)
      walk_at "subl"
    refine lw_turn E GE hh (kok.mono hsub) hi hsz hjl hC (by omega) hline hql (hsub _ mw) hw hwl hg (hcall.mono hsub) ?_ ?_ ?_
    · intro hq k
      have hwl := wordT_len (wix q)
      exact go (wordT (wix q)) k pm pr [] (by omega) (by rw [wparts, if_pos hq]; rfl)
    · intro hq hr k pm pr ρ'
      have hgl := hg q.toNat (by omega)
      exact go (g q.toNat).1 k pm pr ρ' (by omega) (by rw [wparts, if_neg (by omega), hr]; rfl)
    · intro hq hr k b ρ'
      have he : wparts g (t.isD i) (sepI ind) line (q :: ps) dn.length text = (wpre2 (t.isD i) line dn.length (if dn.length > 0 then text ++ sepI ind else text) ++ (g q.toNat).1, true) := by
        rw [wparts, if_neg (by omega), hr]; rfl
      rw [he] at hring
      have := hring rfl k b (ρ' ++ (Cl.o tu (tupP [.int dn.length kj, .int q kq]) :: .o e (enP it ((dn.length : Int) + 1)) :: .o it (liP (K.pl i) (dn.length + 1)) :: ρ))
      simpa using this
end
end

-- KA
section
local macro_rules | `(tactic| walk_at "gl") => `(tactic| with_reducible first | exact g_names _ | exact g_words _ | exact g_walk _)
local macro_rules | `(tactic| walk_at "bl") => `(tactic| with_reducible first | exact b_enum)
local macro_rules | `(tactic| walk_at "k0") => `(tactic| (refine Sw.e_SubscriptA ?_; walk_at "py"; refine atKinds (by assumption) (fun c hc => by walk_at "mem") (by assumption) (by assumption) ?_; walk_at "py"; refine at0 (by assumption) (fun c hc => by walk_at "mem") (by assumption) ?_; walk_at "py"; refine Sw.eqI ?_; walk_at "py"))
local macro_rules | `(tactic| walk_at "subl") => `(tactic| (refine Subp.of_cnt fun _ => ?_; simp only [cnt_append, cnt_cons, cnt_nil, lwVs]; omega))
theorem nlI_len {ind : Option Str} (hsh : ∀ s, ind = some s → s.length ≤ 2) {n : Nat} : (nlI ind n).length ≤ 1 + 2 * n := by
  cases ind with
  | none => show (Str.ofString "").length ≤ _; have : (Str.ofString "").length = 0 := by decide
            omega
  | some s => show (Str.ofString "\n" ++ rep s n).length ≤ _
              have h1 := rep_len s (hsh s rfl) n
              have h2 : (Str.ofString "\n").length = 1 := by decide
              rw [str_len]; omega
theorem wparts_len {g : Nat → Str × Bool} {isD : Bool} {sep line : Str} {C : Nat} (hs : sep.length ≤ 2) : ∀ (ps : List Int) (j : Nat) (text : Str), (∀ p ∈ ps, 0 ≤ p → (g p.toNat).1.length ≤ C) → (wparts g isD sep line ps j text).1.length ≤ text.length + ps.length * (C + 20 + line.length)
  | [], j, text, _ => by simp [wparts]
  | p :: ps, j, text, h => by
    have hm : (ps.length + 1) * (C + 20 + line.length) = ps.length * (C + 20 + line.length) + (C + 20 + line.length) := by rw [Nat.succ_mul]
    have h2 := wpre2_len (isD := isD) (line := line) (j := j) (text := if j > 0 then text ++ sep else text)
    have h3 : (if j > 0 then text ++ sep else text).length ≤ text.length + 2 := by split <;> (try rw [str_len]) <;> omega
    have e : wparts g isD sep line (p :: ps) j text = if p < 0 then wparts g isD sep line ps (j + 1) (wpre2 isD line j (if j > 0 then text ++ sep else text) ++ wordT (wix p)) else if (g p.toNat).2 then (wpre2 isD line j (if j > 0 then text ++ sep else text) ++ (g p.toNat).1, true)
      else wparts g isD sep line ps (j + 1) (wpre2 isD line j (if j > 0 then text ++ sep else text) ++ (g p.toNat).1) := rfl
    rw [e, List.length_cons, hm]
    by_cases hp : p < 0
    · rw [if_pos hp]
      have h4 := wparts_len (g := g) (isD := isD) (line := line) hs ps (j + 1) (wpre2 isD line j (if j > 0 then text ++ sep else text) ++ wordT (wix p)) (fun q hq => h q (.tail _ hq))
      have h5 := wordT_len (wix p)
      rw [str_len] at h4
      omega
    · rw [if_neg hp]
      have h6 := h p (.head _) (by omega)
      cases hr : (g p.toNat).2 with
      | true =>
        rw [if_pos rfl]
        show (wpre2 isD line j (if j > 0 then text ++ sep else text) ++ (g p.toNat).1).length ≤ _
        rw [str_len]
        omega
      | false =>
        rw [if_neg Bool.false_ne_true]
        have h4 := wparts_len (g := g) (isD := isD) (line := line) hs ps (j + 1) (wpre2 isD line j (if j > 0 then text ++ sep else text) ++ (g p.toNat).1) (fun q hq => h q (.tail _ hq))
        rw [str_len] at h4
        omega
theorem walkT_len {t : Th} {ind : Option Str} (to : t.Ok) (hsh : ∀ s, ind = some s → s.length ≤ 2) : ∀ (f i deep : Nat) (way : List Nat), i < t.sz → deep + f ≤ 10 → (walkT t ind f i deep way).1.length ≤ 200 * 4 ^ f
  | 0, i, deep, way, _, _ => by show (Str.ofString "").length ≤ _; have : (Str.ofString "").length = 0 := by decide
                                omega
  | f + 1, i, deep, way, hi, hd => by
    have h0 : 200 * 4 ^ (f + 1) = 4 * (200 * 4 ^ f) := by rw [Nat.pow_succ]; omega
    have h1 : 0 < 4 ^ f := Nat.pow_pos (by decide)
    have z0 : (Str.ofString "").length = 0 := by decide
    have z1 : (Str.ofString "{}").length = 2 := by decide
    have z2 : (Str.ofString "[]").length = 2 := by decide
    have z3 : (Str.ofString "{").length = 1 := by decide
    have z4 : (Str.ofString "[").length = 1 := by decide
    have z5 : (Str.ofString "}").length = 1 := by decide
    have z6 : (Str.ofString "]").length = 1 := by decide
    have hl := to.len i hi
    have hn := nlI_len hsh (n := deep + 1)
    have hn2 := nlI_len hsh (n := deep)
    have hw := wparts_len (g := fun j => walkT t ind f j (deep + 1) (way ++ [i])) (isD := t.isD i) (line := nlI ind (deep + 1)) (C := 200 * 4 ^ f) (sepI_len ind) (t.pt i) 0 (if t.isD i then Str.ofString "{" else Str.ofString "[") (fun p hp hp0 => walkT_len to hsh f _ _ _ (by have := (to.low i hi p hp).2; omega) (by omega))
    have hb : (t.pt i).length * (200 * 4 ^ f + 20 + (nlI ind (deep + 1)).length) ≤ 3 * (200 * 4 ^ f + 20 + (nlI ind (deep + 1)).length) := Nat.mul_le_mul_right _ hl
    have hs : (if t.isD i then Str.ofString "{" else Str.ofString "[").length = 1 := by split <;> assumption
    have hc : (if t.isD i then Str.ofString "}" else Str.ofString "]").length = 1 := by split <;> assumption
    rw [walkT]
    split
    · show (if t.isD i then Str.ofString "{}" else Str.ofString "[]").length ≤ _
      split <;> omega
    · split
      · show (Str.ofString "").length ≤ _; omega
      · dsimp only
        generalize wparts _ _ _ _ _ _ _ = r at hw ⊢
        generalize (t.pt i).length * _ = m at hw hb
        cases hr : r.2 with
        | true => rw [if_pos rfl]; dsimp only; omega
        | false =>
          rw [if_neg Bool.false_ne_true]
          dsimp only
          rw [str_len]
          cases ind with
          | none => dsimp only; omega
          | some s => dsimp only; rw [str_len]; omega
end

-- KB
section
local macro_rules | `(tactic| walk_at "gl") => `(tactic| with_reducible first | exact g_names _ | exact g_words _ | exact g_walk _)
local macro_rules | `(tactic| walk_at "bl") => `(tactic| with_reducible first | exact b_enum)
local macro_rules | `(tactic| walk_at "k0") => `(tactic| (refine Sw.e_SubscriptA ?_; walk_at "py"; refine atKinds (by assumption) (fun c hc => by walk_at "mem") (by assumption) (by assumption) ?_; walk_at "py"; refine at0 (by assumption) (fun c hc => by walk_at "mem") (by assumption) ?_; walk_at "py"; refine Sw.eqI ?_; walk_at "py"))
local macro_rules | `(tactic| walk_at "subl") => `(tactic| (refine Subp.of_cnt fun _ => ?_; simp only [cnt_append, cnt_cons, cnt_nil, lwVs]; omega))
section
variable {B : Bx} {A : Around} {Ψ : Value → SH → Prop} {σ τ S R T : SH} {env : Env} {Φ : Value → SH → Prop} {t : Th} {K : Kd}
theorem indV_none {k : Tok} : (indV none k == Value.none) = true := rfl
theorem indV_some {s : Str} {k : Tok} : (indV (some s) k == Value.none) = false := rfl
def tailT (ind : Option Str) (deep : Nat) (x : Str) : Str := match ind with | none => x | some _ => x ++ nlI ind deep
abbrev wpT (t : Th) (ind : Option Str) (f i deep : Nat) (way : List Nat) : Str × Bool := wparts (fun j => walkT t ind f j (deep + 1) (way ++ [i])) (t.isD i) (sepI ind) (nlI ind (deep + 1)) (t.pt i) 0 (if t.isD i then Str.ofString "{" else Str.ofString "[")
theorem walkT_go {t : Th} {ind : Option Str} {f i deep : Nat} {way : List Nat} (he : (t.pt i).isEmpty = false) (hi2 : i ∉ way) : walkT t ind (f + 1) i deep way =
    if (wpT t ind f i deep way).2 then ((wpT t ind f i deep way).1, true) else (tailT ind deep (wpT t ind f i deep way).1 ++ (if t.isD i then Str.ofString "}" else Str.ofString "]"), false) := by
  rw [walkT, he, if_neg Bool.false_ne_true, if_neg hi2]; rfl
-- behind the loop
theorem lw_fin {ind : Option Str} {i deep : Nat} {ki kd k0 kt : Tok} {w : Addr} {l : Option Value} {x : Str} {pj pp pm pr : Option Value} (E : EnvOk env lwKs []) (GE : GlbOk env lwGs) (kok : KdOk K t σ) (hi : i < t.sz) (hsz : t.sz ≤ 3)
    (hsh : ∀ s, ind = some s → s.length ≤ 2) (hdf : deep ≤ 10) (hx : x.length ≤ 100000)
    (y : ∀ k b, Φ (.ref b) (.o b (tupP [.str (tailT ind deep x ++ (if t.isD i then Str.ofString "}" else Str.ofString "]")) k, .bool false]) :: σ)) :
    Sw B A (execs ((fnBody (topStmt 20)).drop 5) env) (Back Φ) NoE (.o env.locals (frameP lwKs (lwVs K i ki deep kd w (indV ind k0) l (some (.str x kt)) pj pp pm pr)) :: σ) := by
  have fin : ∀ (x : Str) (kt : Tok), x.length ≤ 110000 → (∀ k b, Φ (.ref b) (.o b (tupP [.str (x ++ (if t.isD i then Str.ofString "}" else Str.ofString "]")) k, .bool false]) :: σ)) →
      Sw B A (execs ((fnBody (topStmt 20)).drop 6) env) (Back Φ) NoE (.o env.locals (frameP lwKs (lwVs K i ki deep kd w (indV ind k0) l (some (.str x kt)) pj pp pm pr)) :: σ) := by
    intro x kt hx y
    refine Sw.execs_cons (Sw.s_Return (Sw.e_Tuple ?_))
    walk_at "py"
    walk_at "k0"
    have e1 : (Str.ofString "}").length = 1 := by decide
    have e2 : (Str.ofString "]").length = 1 := by decide
    cases hd : t.isD i with
    | true =>
      rw [hd] at y
      refine ite_neg (by decide) ?_
      walk_at "py"
      refine Sw.addStr ?_ (by rw [sizeLine_eq]; omega)
      intro k
      walk_at "py"
      refine ⟨by show (2 : Nat) < 100000; decide, _, _, rfl, fun b => ?_⟩
      exact ⟨_, .cons _ (.refl _), y k b⟩
    | false =>
      rw [hd] at y
      refine ite_pos (by decide) ?_
      walk_at "py"
      refine Sw.addStr ?_ (by rw [sizeLine_eq]; omega)
      intro k
      walk_at "py"
      refine ⟨by show (2 : Nat) < 100000; decide, _, _, rfl, fun b => ?_⟩
      exact ⟨_, .cons _ (.refl _), y k b⟩
  refine Sw.execs_cons (Sw.s_If ?_)
  walk_at "py"
  cases ind with
  | none =>
    refine Sw.isnot_plain rfl ?_
    refine Sw.truthy_bool ?_
    refine ite_neg (by rw [indV_none]; decide) (Sw.execs_nil ?_)
    exact fin x kt (by omega) y
  | some s =>
    have hs := hsh s rfl
    refine Sw.isnot_plain rfl ?_
    refine Sw.truthy_bool ?_
    refine ite_pos (by rw [indV_some]; rfl) ?_
    walk_at "py"
    refine Sw.mulStr hs (by omega) ?_
    intro k1
    have hr := rep_len s hs deep
    have e1 : (Str.ofString "\n").length = 1 := by decide
    refine Sw.addStr ?_ (by rw [sizeLine_eq]; omega)
    intro k2
    walk_at "py"
    refine Sw.iaddStr ?_ (by rw [sizeLine_eq, str_len]; omega)
    intro k3
    refine Sw.st E (NPut.tail (.tail (.tail (.tail (.tail (.tail .head)))))) (Sw.execs_nil ?_)
    exact fin _ k3 (by rw [str_len, str_len]; omega) y
-- from the loop on
theorem lw_rest {ind : Option Str} {f i deep : Nat} {way : List Nat} {ki kd k0 kl kt : Tok} {w : Addr} {wvs : List Value} (E : EnvOk env lwKs []) (GE : GlbOk env lwGs) (kok : KdOk K t σ) (to : t.Ok) (hi : i < t.sz) (hsz : t.sz ≤ 3)
    (mw : Cl.o w (tupP wvs) ∈ σ) (hw : IntsAre wvs (way.map Int.ofNat)) (hwl : way.length ≤ 10) (hh : A.handled = none) (hsh : ∀ s, ind = some s → s.length ≤ 2) (hdf : deep + 1 + f ≤ 8) (hf : f ≤ 3)
    (hcall : WCall B A K t (fun j => walkT t ind f j (deep + 1) (way ++ [i])) deep (way ++ [i]) (indV ind k0) σ)
    (he : (t.pt i).isEmpty = false) (hi2 : i ∉ way)
    (y : ∀ k b ρ, Φ (.ref b) (.o b (tupP [.str (walkT t ind (f + 1) i deep way).1 k, .bool (walkT t ind (f + 1) i deep way).2]) :: (ρ ++ σ))) :
    Sw B A (execs ((fnBody (topStmt 20)).drop 4) env) (Back Φ) NoE (.o env.locals (frameP lwKs (lwVs K i ki deep kd w (indV ind k0) (some (.str (nlI ind (deep + 1)) kl)) (some (.str (if t.isD i then Str.ofString "{" else Str.ofString "[") kt)) none none none none)) :: σ) := by
  have hwk := walkT_go (t := t) (ind := ind) (f := f) (i := i) (deep := deep) (way := way) he hi2
  have z3 : (Str.ofString "{").length = 1 := by decide
  have z4 : (Str.ofString "[").length = 1 := by decide
  have z5 : (Str.ofString "}").length = 1 := by decide
  have z6 : (Str.ofString "]").length = 1 := by decide
  have hs : (if t.isD i then Str.ofString "{" else Str.ofString "[").length = 1 := by split <;> assumption
  have hn := nlI_len hsh (n := deep + 1)
  have hl := to.len i hi
  have hg : ∀ j, j < t.sz → ((fun j => walkT t ind f j (deep + 1) (way ++ [i])) j).1.length ≤ 12800 := fun j hj => by
    have h1 := walkT_len to hsh f j (deep + 1) (way ++ [i]) hj (by omega)
    have h2 : 4 ^ f ≤ 4 ^ 3 := Nat.pow_le_pow_right (by decide) hf
    show (walkT t ind f j (deep + 1) (way ++ [i])).1.length ≤ _
    omega
  have hwpl := wparts_len (g := fun j => walkT t ind f j (deep + 1) (way ++ [i])) (isD := t.isD i) (line := nlI ind (deep + 1)) (C := 12800) (sepI_len ind) (t.pt i) 0 (if t.isD i then Str.ofString "{" else Str.ofString "[") (fun p hp hp0 => hg _ (by have := (to.low i hi p hp).2; omega))
  have hb : (t.pt i).length * (12800 + 20 + (nlI ind (deep + 1)).length) ≤ 3 * (12800 + 20 + (nlI ind (deep + 1)).length) := Nat.mul_le_mul_right _ hl
  refine Sw.execs_cons (Sw.s_For ?_)
  refine Sw.e_Call_Name ?_
  walk_at "py"
  refine Sw.e_SubscriptA ?_
  walk_at "py"
  refine atKinds kok (fun c hc => .tail _ hc) hi hsz ?_
  walk_at "py"
  refine at1 kok (fun c hc => .tail _ hc) hi ?_
  walk_at "py"
  refine ⟨trivial, ?_⟩
  refine Sw.call_enum (l := K.pl i) (vs := K.pv i) (.tail _ (kok.parts i hi)) ?_
  intro e it
  refine Sw.iter_enum (it := it) (i := 0) (by walk_at "mem") ?_
  refine lw_loop (K := K) (i := i) (ind := ind) (deep := deep) (C := 12800) (way := way) (line := nlI ind (deep + 1)) (w := w) (it := it) E GE kok to hi hsz hh (by decide) (by omega) mw hw hwl hg hcall (t.pt i) [] rfl (if t.isD i then Str.ofString "{" else Str.ofString "[") kt none none none none [] (by omega) ?_ ?_
  · intro hr k pj pp pm pr ρ'
    have hr : (wpT t ind f i deep way).2 = false := hr
    rw [if_neg (by rw [hr]; exact Bool.false_ne_true)] at hwk
    rw [hwk] at y
    refine lw_fin E GE (kok.mono fun c hc => List.mem_append_right _ hc) hi hsz hsh (by omega) ?_ fun k b => y k b ρ'
    have e0 : ([] : List Int).length = 0 := rfl
    rw [e0]
    show (wparts _ _ _ _ _ 0 _).1.length ≤ _
    omega
  · intro hr k b ρ'
    have hr : (wpT t ind f i deep way).2 = true := hr
    rw [if_pos hr] at hwk
    rw [hwk] at y
    exact ⟨_, .refl _, y k b ρ'⟩
theorem walkT_empty {f i deep : Nat} {way : List Nat} {ind : Option Str} (he : (t.pt i).isEmpty = true) : walkT t ind (f + 1) i deep way = (if t.isD i then Str.ofString "{}" else Str.ofString "[]", false) := by
  rw [walkT, he, if_pos rfl]
theorem walkT_ring {f i deep : Nat} {way : List Nat} {ind : Option Str} (he : (t.pt i).isEmpty = false) (h : i ∈ way) : walkT t ind (f + 1) i deep way = (Str.ofString "", true) := by
  rw [walkT, he, if_neg Bool.false_ne_true, if_pos h]
theorem any_way {way : List Nat} {i : Nat} : ((way.map Int.ofNat).any (· == (i : Int))) = decide (i ∈ way) := by
  rw [Bool.eq_iff_iff, List.any_eq_true, decide_eq_true_iff]
  constructor
  · rintro ⟨x, hx, h⟩
    obtain ⟨j, hj, rfl⟩ := List.mem_map.mp hx
    have := eq_of_beq h
    have : j = i := Int.ofNat.inj this
    exact this ▸ hj
  · intro h
    exact ⟨(i : Int), List.mem_map_of_mem (f := Int.ofNat) h, beq_self_eq_true _⟩
theorem lw_body {ind : Option Str} {f i deep : Nat} {way : List Nat} {ki kd k0 : Tok} {w : Addr} {wvs : List Value} (E : EnvOk env lwKs []) (GE : GlbOk env lwGs) (kok : KdOk K t σ) (to : t.Ok) (hi : i < t.sz) (hsz : t.sz ≤ 3)
    (mw : Cl.o w (tupP wvs) ∈ σ) (hw : IntsAre wvs (way.map Int.ofNat)) (hwl : way.length ≤ 10) (hh : A.handled = none) (hsh : ∀ s, ind = some s → s.length ≤ 2) (hdf : deep + 1 + f ≤ 8) (hf : f ≤ 3)
    (hcall : i ∉ way → WCall B A K t (fun j => walkT t ind f j (deep + 1) (way ++ [i])) deep (way ++ [i]) (indV ind k0) σ)
    (y : ∀ k b ρ, Φ (.ref b) (.o b (tupP [.str (walkT t ind (f + 1) i deep way).1 k, .bool (walkT t ind (f + 1) i deep way).2]) :: (ρ ++ σ))) :
    Sw B A (execs (fnBody (topStmt 20)) env) (Back Φ) NoE (.o env.locals (frameP lwKs (lwVs K i ki deep kd w (indV ind k0) none none none none none none)) :: σ) := by
  refine Sw.execs_cons (Sw.s_If ?_)
  walk_at "py"
  refine Sw.e_SubscriptA ?_
  walk_at "py"
  refine atKinds kok (fun c hc => .tail _ hc) hi hsz ?_
  walk_at "py"
  refine at1 kok (fun c hc => .tail _ hc) hi ?_
  refine Sw.truthyL (vs := K.pv i) (.tail _ (kok.parts i hi)) (by rw [(kok.numb i hi).length]; have := to.len i hi; omega) ?_
  have hem : (K.pv i).isEmpty = (t.pt i).isEmpty := by
    have := (kok.numb i hi).length
    cases h1 : K.pv i <;> cases h2 : t.pt i <;> simp [h1, h2] at this ⊢
  rw [hem]
  cases he : (t.pt i).isEmpty with
  | true =>
    rw [walkT_empty he] at y
    simp only [Bool.not_true, Bool.not_false, if_true]
    walk_at "py"
    refine Sw.e_Tuple ?_
    walk_at "py"
    walk_at "k0"
    cases hd : t.isD i with
    | true =>
      rw [hd] at y
      refine ite_neg (by decide) ?_
      walk_at "py"
      refine ⟨by show (2 : Nat) < 100000; decide, _, _, rfl, fun b => ?_⟩
      exact ⟨_, .cons _ (.refl _), y _ b []⟩
    | false =>
      rw [hd] at y
      refine ite_pos (by decide) ?_
      walk_at "py"
      refine ⟨by show (2 : Nat) < 100000; decide, _, _, rfl, fun b => ?_⟩
      exact ⟨_, .cons _ (.refl _), y _ b []⟩
  | false =>
    simp only [Bool.not_false, Bool.not_true, Bool.false_eq_true, if_false]
    refine Sw.execs_nil ?_
    refine Sw.execs_cons (Sw.s_If ?_)
    walk_at "py"
    refine Sw.inT (vs := wvs) (.tail _ mw) hw ?_
    refine Sw.truthy_bool ?_
    rw [any_way]
    by_cases hi2 : i ∈ way
    · rw [walkT_ring he hi2] at y
      rw [decide_eq_true hi2]
      walk_at "py"
      refine Sw.e_Tuple ?_
      walk_at "py"
      refine ⟨by show (2 : Nat) < 100000; decide, _, _, rfl, fun b => ?_⟩
      exact ⟨_, .cons _ (.refl _), y _ b []⟩
    · rw [decide_eq_false hi2]
      refine ite_neg Bool.false_ne_true (Sw.execs_nil ?_)
      -- from the text's start on
      have from3 : ∀ kl, Sw B A (execs ((fnBody (topStmt 20)).drop 3) env) (Back Φ) NoE (.o env.locals (frameP lwKs (lwVs K i ki deep kd w (indV ind k0) (some (.str (nlI ind (deep + 1)) kl)) none none none none none)) :: σ) := by
        intro kl
        refine Sw.execs_cons (Sw.s_Assign_Name ?_)
        walk_at "py"
        walk_at "k0"
        have rest : ∀ kt, Sw B A (execs ((fnBody (topStmt 20)).drop 4) env) (Back Φ) NoE (.o env.locals (frameP lwKs (lwVs K i ki deep kd w (indV ind k0) (some (.str (nlI ind (deep + 1)) kl)) (some (.str (if t.isD i then Str.ofString "{" else Str.ofString "[") kt)) none none none none)) :: σ) :=
          fun kt => lw_rest E GE kok to hi hsz mw hw hwl hh hsh hdf hf (hcall hi2) he hi2 y
        cases hd : t.isD i with
        | true =>
          rw [hd] at rest
          refine ite_neg (by decide) (Sw.e_Const_str fun _ => ?_)
          exact Sw.st E (NPut.tail (.tail (.tail (.tail (.tail (.tail .head)))))) (rest _)
        | false =>
          rw [hd] at rest
          refine ite_pos (by decide) (Sw.e_Const_str fun _ => ?_)
          exact Sw.st E (NPut.tail (.tail (.tail (.tail (.tail (.tail .head)))))) (rest _)
      refine Sw.execs_cons (Sw.s_Assign_Name ?_)
      walk_at "py"
      cases ind with
      | none =>
        refine Sw.is_plain rfl ?_
        refine Sw.truthy_bool ?_
        refine ite_pos (by rw [indV_none]) (Sw.e_Const_str fun _ => ?_)
        exact Sw.st E (NPut.tail (.tail (.tail (.tail (.tail .head))))) (from3 _)
      | some s =>
        have hs := hsh s rfl
        refine Sw.is_plain rfl ?_
        refine Sw.truthy_bool ?_
        refine ite_neg (by rw [indV_some]; exact Bool.false_ne_true) ?_
        walk_at "py"
        refine Sw.addI ?_
        intro k1
        have hr := rep_len s hs (deep + 1)
        have e1 : (Str.ofString "\n").length = 1 := by decide
        rw [show ((deep : Int) + 1) = ((deep + 1 : Nat) : Int) from rfl]
        refine Sw.mulStr hs (by omega) ?_
        intro k2
        refine Sw.addStr ?_ (by rw [sizeLine_eq]; omega)
        intro k3
        exact Sw.st E (NPut.tail (.tail (.tail (.tail (.tail .head))))) (from3 _)
theorem lw_here : FnHere B 201 (fdK B.w 201) σ := fn_here rfl rfl rfl rfl rfl rfl
theorem lw_call {ind : Option Str} (to : t.Ok) (hsz : t.sz ≤ 3) (hsh : ∀ s, ind = some s → s.length ≤ 2) {k0 : Tok} : ∀ (f : Nat) (A : Around) (i deep : Nat) (way : List Nat) (ki kd : Tok) (w : Addr) (wvs : List Value) (c : Cl) (σ : SH) (Φ Ψ : Value → SH → Prop), f + way.length = 4 → deep = way.length → way.Nodup → (∀ j ∈ way, j < t.sz) → i < t.sz →
    A.handled = none → Roomy A (f + 1) → KdOk K t (c :: σ) → Cl.o w (tupP wvs) ∈ c :: σ → IntsAre wvs (way.map Int.ofNat) →
    (∀ k b ρ, Φ (.ref b) (c :: .o b (tupP [.str (walkT t ind f i deep way).1 k, .bool (walkT t ind f i deep way).2]) :: (ρ ++ σ))) →
    Sw B A (PySem.call (.ref 201) [.ref K.kl, .int i ki, .int (deep : Int) kd, .ref w, indV ind k0]) Φ Ψ (c :: σ) := by
  intro f
  induction f with
  | zero =>
    intro A i deep way ki kd w wvs c σ Φ Ψ hf _ hnd hways
    have := nodup_len _ way hnd hways
    omega
  | succ f ih =>
    intro A i deep way ki kd w wvs c σ Φ Ψ hf hdeep hnd hways hi hh hr kok mw hw y
    refine' Sw.callF lw_here (lw_ok B.w) (hr.le (by omega)) ?iv ?_
    case iv => walk_at "iv"
    intro L
    have E : EnvOk (envF (fdK B.w 201) L 201) lwKs [] := EnvOk.of (lw_s B.w) lw_b
    have GE := lw_g B.w L
    have hr' : Roomy (A.deeper (envF (fdK B.w 201) L 201)) (f + 1) := hr.deeper
    have hh' : (A.deeper (envF (fdK B.w 201) L 201)).handled = none := hh
    generalize hv : envF (fdK B.w 201) L 201 = env at E GE hr' hh' ⊢
    have hl : L = env.locals := by rw [← hv]
    subst hl
    refine Sw.shrinkN (Sw.mono (lw_body (σ := c :: σ) (t := t) (f := f) (i := i) (way := way) (Φ := fun v τ => ∃ τ' : SH, Subp τ' τ ∧ Φ v τ') E GE kok to hi hsz mw hw (by omega) hh' hsh (by omega) (by omega) ?_ ?_) (fun f τ q => ?_) fun _ _ q => q)
    · intro hi2 j hj k1 k2 w' wvs' c' ρ Φ' h1 h2 h3 h4
      exact ih _ j (deep + 1) (way ++ [i]) k1 k2 w' wvs' c' ρ Φ' NoE (by simp; omega) (by simp; omega)
        (List.nodup_append.mpr ⟨hnd, List.nodup_cons.mpr ⟨List.not_mem_nil, List.nodup_nil⟩, fun a ha b hb q => hi2 (by rcases List.mem_singleton.mp hb with rfl; exact q ▸ ha)⟩)
        (fun j hj => by
          rcases List.mem_append.mp hj with hj | hj
          · exact hways j hj
          · rcases List.mem_singleton.mp hj with rfl; exact hi) hj hh' hr' (kok.mono fun x hx => .tail _ (h1 x hx)) h2 h3 h4
    · intro k b ρ
      exact ⟨_, by walk_at "subp", y k b ρ⟩
    · obtain ⟨τ', h1, τ'', h2, h3⟩ := q
      exact ⟨τ'', h2.trans (Subp.of_sub h1), τ'', .refl _, h3⟩
end
end

-- LA
section
-- zip of two lists
def zpP (TI TO : Addr) (f0 : Value) (o : Obj) : Prop := o = { cls := .type "zip", dict := none, data := .fields #[f0, .bool false, .bool false, .ref TI, .ref TO], slots := #[] }
def prP (a b : Value) (o : Obj) : Prop := o = { cls := .type "tuple", data := .seq #[a, b] }
structure Zp where
  z : Addr
  TI : Addr
  TO : Addr
  i1 : Addr
  i2 : Addr
  l1 : Addr
  l2 : Addr
abbrev Zp.cells (Z : Zp) (f0 : Value) (k1 k2 : Nat) (a b : Value) : SH := [.o Z.z (zpP Z.TI Z.TO f0), .o Z.TI (prP (.ref Z.i1) (.ref Z.i2)), .o Z.TO (prP a b), .o Z.i1 (liP Z.l1 k1), .o Z.i2 (liP Z.l2 k2)]
section
variable {B : Bx} {A : Around} {Ψ : Value → SH → Prop} {σ τ S R T : SH} {env : Env} {w : World} {G h h' : Heap} {g : Array GenState}
theorem Own.dropMany {ρ : List (Addr × (Obj → Prop))} (O : Own w G h g (ρ.map cl2 ++ σ)) (hs : ∀ b o, b ∉ ρ.map (·.1) → h.get? b = some o → h'.get? b = some o) : Own w G h' g σ := by
  have nd := O.nodup
  rw [List.map_append, cl2_key] at nd
  obtain ⟨nd1, nd2, nd3⟩ := List.nodup_append.mp nd
  have lowρ : ∀ a, a ∈ ρ.map (·.1) → G.get? a = none := fun a ha => by
    obtain ⟨p, hp, rfl⟩ := List.mem_map.mp ha
    exact O.low p.1 p.2 (List.mem_append_left _ (List.mem_map_of_mem hp))
  refine ⟨O.wf, fun b o e => hs b o (fun hb => by rw [lowρ b hb] at e; cases e) (O.keep b o e), fun c hc => ?_, fun a P m => O.low a P (List.mem_append_right _ m), nd2, O.bare⟩
  have := O.at' c (List.mem_append_right _ hc)
  cases c with
  | o a Q =>
    obtain ⟨o', e, q⟩ := this
    exact ⟨o', hs a o' (fun ha => nd3 (2 * a) (List.mem_map_of_mem ha) (2 * a) (List.mem_map_of_mem (f := Cl.key) hc) rfl) e, q⟩
  | g n st => exact this
theorem Own.neOf {a b : Addr} {P Q : Obj → Prop} {pre post : SH} (O : Own w G h g (pre ++ post)) (ha : Cl.o a P ∈ pre) (hb : Cl.o b Q ∈ post) : a ≠ b := fun e => by
  have nd := O.nodup
  rw [List.map_append] at nd
  obtain ⟨_, _, nd3⟩ := List.nodup_append.mp nd
  exact nd3 _ (List.mem_map_of_mem ha) _ (List.mem_map_of_mem hb) (by subst e; rfl)
theorem zip_apart {Z : Zp} {f0 : Value} {k1 k2 : Nat} {a b : Value} {xs ys : List Value} (O : Own w G h g (Z.cells f0 k1 k2 a b ++ σ)) (m1 : Cl.o Z.l1 (listP xs) ∈ σ) (m2 : Cl.o Z.l2 (listP ys) ∈ σ) : ZipApart Z.z Z.TI Z.TO Z.i1 Z.i2 Z.l1 Z.l2 := by
  have nd := O.nodup
  have nd1 := (List.nodup_append.mp (by rw [List.map_append] at nd; exact nd)).1
  simp only [Zp.cells, List.map_cons, List.map_nil, Cl.key, List.nodup_cons, List.mem_cons, List.not_mem_nil, or_false, not_or] at nd1
  obtain ⟨⟨a1, a2, a3, a4⟩, ⟨b1, b2, b3⟩, ⟨c1, c2⟩, d1, _⟩ := nd1
  have key : ∀ {x y : Addr}, ¬ (2 * x = 2 * y) → x ≠ y := fun h e => h (by rw [e])
  have n1 : ∀ {x : Addr} {P}, Cl.o x P ∈ Z.cells f0 k1 k2 a b → Z.l1 ≠ x := fun hm => (O.neOf hm m1).symm
  have n2 : ∀ {x : Addr} {P}, Cl.o x P ∈ Z.cells f0 k1 k2 a b → Z.l2 ≠ x := fun hm => (O.neOf hm m2).symm
  exact ⟨(key a1).symm, (key a2).symm, (key a3).symm, (key a4).symm, key b1, key b2, key b3, key c1, key c2, key d1, n1 (by walk_at "mem"), n1 (P := prP a b) (by walk_at "mem"), n1 (P := liP Z.l1 k1) (by walk_at "mem"), n1 (P := liP Z.l2 k2) (by walk_at "mem"), n2 (by walk_at "mem"), n2 (P := prP a b) (by walk_at "mem"), n2 (P := liP Z.l1 k1) (by walk_at "mem"), n2 (P := liP Z.l2 k2) (by walk_at "mem")⟩
theorem li_of {l it : Addr} {k : Nat} (x : ∃ o, h.get? it = some o ∧ liP l k o) : h.IsListIter it l k := by
  obtain ⟨o, ho, c, d⟩ := x
  exact ⟨o, ho, c, d⟩
theorem Sw.next_zip {Z : Zp} {k1 k2 : Nat} {a b x y : Value} {xs ys : List Value} {Φ : Option Value → SH → Prop} (m1 : Cl.o Z.l1 (listP xs) ∈ σ) (m2 : Cl.o Z.l2 (listP ys) ∈ σ) (hx : xs[k1]? = some x) (hy : ys[k2]? = some y)
    (q : ∀ t, Φ (some (.ref t)) (Z.cells (rawInt t) (k1 + 1) (k2 + 1) x y ++ (.o t (tupP [x, y]) :: σ))) : Sw B A (pyNext (.ref Z.z)) Φ Ψ (Z.cells .none k1 k2 a b ++ σ) := fun h g d k O => by
  have D := zip_apart O m1 m2
  obtain ⟨o1, e1, rfl⟩ := O.get (a := Z.z) (P := zpP Z.TI Z.TO .none) (by walk_at "mem")
  obtain ⟨o2, e2, rfl⟩ := O.get (a := Z.TI) (P := prP (.ref Z.i1) (.ref Z.i2)) (by walk_at "mem")
  obtain ⟨o3, e3, rfl⟩ := O.get (a := Z.TO) (P := prP a b) (by walk_at "mem")
  have i1 := li_of (O.get (a := Z.i1) (P := liP Z.l1 k1) (by walk_at "mem"))
  have i2 := li_of (O.get (a := Z.i2) (P := liP Z.l2 k2) (by walk_at "mem"))
  refine wpAny_pyNext_zip_item (s := ⟨h, g, d, k, B.os⟩) D e1 e2 e3 i1 i2 (isList_of (O.get (List.mem_append_right _ m1))) (isList_of (O.get (List.mem_append_right _ m2))) (by simpa using hx) (by simpa using hy) fun h' a1 a2 a3 a4 a5 _ a7 => ?_
  have hTI : h'.get? Z.TI = some _ := a7 Z.TI _ D.TIz D.TITO D.TIi1 D.TIi2 e2
  have O' := Own.many (h' := h') (ρ := [(Z.z, zpP Z.TI Z.TO .none), (Z.TI, prP (.ref Z.i1) (.ref Z.i2)), (Z.TO, prP a b), (Z.i1, liP Z.l1 k1), (Z.i2, liP Z.l2 k2)])
    (ρ' := [(Z.z, zpP Z.TI Z.TO (rawInt h.objs.size)), (Z.TI, prP (.ref Z.i1) (.ref Z.i2)), (Z.TO, prP x y), (Z.i1, liP Z.l1 (k1 + 1)), (Z.i2, liP Z.l2 (k2 + 1))]) (ν := [(h.objs.size, tupP [x, y])]) (σ := σ) O rfl
    (fun c o hc e => a7 c o (fun q => hc (by simp [q])) (fun q => hc (by simp [q])) (fun q => hc (by simp [q])) (fun q => hc (by simp [q])) e)
    (fun p hp => by
      simp only [List.mem_cons, List.not_mem_nil, or_false] at hp
      rcases hp with rfl | rfl | rfl | rfl | rfl
      · exact ⟨_, a1, rfl⟩
      · exact ⟨_, hTI, rfl⟩
      · exact ⟨_, a2, rfl⟩
      · obtain ⟨o, ho, c, d⟩ := a3; exact ⟨o, ho, c, d⟩
      · obtain ⟨o, ho, c, d⟩ := a4; exact ⟨o, ho, c, d⟩)
    (fun p hp => by
      simp only [List.mem_cons, List.not_mem_nil, or_false] at hp
      subst hp
      exact ⟨Heap.get?_none_of_le (Nat.le_refl _), _, a5, 0, rfl⟩) (by simp)
  exact .mk O' (q h.objs.size)
theorem Sw.go_zip {Z : Zp} {t : Addr} {k1 k2 : Nat} {a b : Value} {elts : List Expr} {kk : Nat} {pos : Pos} {Φ : Unit → SH → Prop} (x : Φ () (Z.cells .none k1 k2 a b ++ σ)) : Sw B A (letOwnedTupleGo (.Tuple elts kk pos) (.ref Z.z) (.ref t)) Φ Ψ (Z.cells (rawInt t) k1 k2 a b ++ σ) := fun h g d k O => by
  obtain ⟨o1, e1, rfl⟩ := O.get (a := Z.z) (P := zpP Z.TI Z.TO (rawInt t)) (by walk_at "mem")
  exact wpAny_letOwnedTupleGo_zip (s := ⟨h, g, d, k, B.os⟩) e1 fun h' a1 a2 => .mk (O.upd (P' := zpP Z.TI Z.TO .none) (.head (r := _)) (fun b o hb y => (a2.2 b hb).trans y) ⟨_, a1, rfl⟩) x
theorem Sw.zip_end {Z : Zp} {k1 k2 : Nat} {a b : Value} {xs ys : List Value} {Φ : Option Value → SH → Prop} (hh : A.handled = none) (m1 : Cl.o Z.l1 (listP xs) ∈ σ) (m2 : Cl.o Z.l2 (listP ys) ∈ σ) (hend : xs[k1]? = none ∨ ys[k2]? = none)
    (q : Φ none σ) : Sw B A (pyNext (.ref Z.z)) Φ Ψ (Z.cells .none k1 k2 a b ++ σ) := fun h g d k O => by
  have D := zip_apart O m1 m2
  obtain ⟨o1, e1, rfl⟩ := O.get (a := Z.z) (P := zpP Z.TI Z.TO .none) (by walk_at "mem")
  obtain ⟨o2, e2, rfl⟩ := O.get (a := Z.TI) (P := prP (.ref Z.i1) (.ref Z.i2)) (by walk_at "mem")
  obtain ⟨o3, e3, rfl⟩ := O.get (a := Z.TO) (P := prP a b) (by walk_at "mem")
  have i1 := li_of (O.get (a := Z.i1) (P := liP Z.l1 k1) (by walk_at "mem"))
  have i2 := li_of (O.get (a := Z.i2) (P := liP Z.l2 k2) (by walk_at "mem"))
  refine wpAny_pyNext_zip_end (s := ⟨h, g, d, k, B.os⟩) hh D e1 e2 e3 i1 i2 (isList_of (O.get (List.mem_append_right _ m1))) (isList_of (O.get (List.mem_append_right _ m2))) (by simpa using hend) fun h' a7 => ?_
  exact .mk (Own.dropMany (ρ := [(Z.z, zpP Z.TI Z.TO .none), (Z.TI, prP (.ref Z.i1) (.ref Z.i2)), (Z.TO, prP a b), (Z.i1, liP Z.l1 k1), (Z.i2, liP Z.l2 k2)]) O
    (fun c o hc e => a7 c o (fun q => hc (by simp [q])) (fun q => hc (by simp [q])) (fun q => hc (by simp [q])) (fun q => hc (by simp [q])) e)) q
theorem Sw.iter_zip {Z : Zp} {k1 k2 : Nat} {f0 a b : Value} {c : Cl} {Φ : Value → SH → Prop} (x : Φ (.ref Z.z) (c :: (Z.cells f0 k1 k2 a b ++ σ))) : Sw B A (pyIter (.ref Z.z)) Φ Ψ (c :: (Z.cells f0 k1 k2 a b ++ σ)) := fun h g d k O => by
  obtain ⟨o1, e1, rfl⟩ := O.get (a := Z.z) (P := zpP Z.TI Z.TO f0) (by walk_at "mem")
  exact wpAny_pyIter_zip (s := ⟨h, g, d, k, B.os⟩) e1 (.mk O x)
theorem Sw.call_zip {c : Cl} {l1 l2 : Addr} {xs ys : List Value} {Φ : Value → SH → Prop} (m1 : Cl.o l1 (listP xs) ∈ c :: σ) (m2 : Cl.o l2 (listP ys) ∈ c :: σ)
    (x : ∀ z TI TO i1 i2, Φ (.ref z) (c :: ((⟨z, TI, TO, i1, i2, l1, l2⟩ : Zp).cells .none 0 0 .none .none ++ σ))) : Sw B A (PySem.call (.type "zip") [.ref l1, .ref l2]) Φ Ψ (c :: σ) := fun h g d k O => by
  refine call_zip_2 (s := ⟨h, g, d, k, B.os⟩) (isList_of (O.get m1)) (isList_of (O.get m2)) fun h' a1 a2 a3 a4 a5 _ a7 => ?_
  have no : ∀ j, h.get? (h.objs.size + j) = none := fun j => Heap.get?_none_of_le (Nat.le_add_right _ _)
  have O' := O.adds (h' := h') (ρ := [(h.objs.size + 4, zpP (h.objs.size + 2) (h.objs.size + 3) .none), (h.objs.size + 2, prP (.ref h.objs.size) (.ref (h.objs.size + 1))), (h.objs.size + 3, prP .none .none), (h.objs.size, liP l1 0), (h.objs.size + 1, liP l2 0)]) a7 (by simp) (fun p hp => by
    simp only [List.mem_cons, List.not_mem_nil, or_false] at hp
    rcases hp with rfl | rfl | rfl | rfl | rfl
    · exact ⟨no 4, _, a1, rfl⟩
    · exact ⟨no 2, _, a2, rfl⟩
    · exact ⟨no 3, _, a3, rfl⟩
    · obtain ⟨o, ho, c, d⟩ := a4; exact ⟨no 0, o, ho, c, d⟩
    · obtain ⟨o, ho, c, d⟩ := a5; exact ⟨no 1, o, ho, c, d⟩)
  exact .mk (O'.perm (List.perm_middle (l₁ := [_, _, _, _, _]))) (x _ _ _ _ _)
end
end

-- LB
section
def Cmp (B : Bx) (op : CmpOp) (a c : Value) (b : Bool) (σ : SH) : Prop := ∀ (A : Around) (Ψ : Value → SH → Prop) (Φ : Value → SH → Prop), A.handled = none → A.depth ≤ 690 → A.units ≤ 9000 → Φ (.bool b) σ → Sw B A (compareOp op a c) Φ Ψ σ
section
variable {B : Bx} {A : Around} {Ψ : Value → SH → Prop} {σ τ S : SH} {Φ : Value → SH → Prop}
local macro_rules | `(tactic| x_close) => `(tactic| first | exact x_endB0 (by assumption) (by kernel_rfl) (by assumption) | exact x_endB (by assumption) (by assumption) (by kernel_rfl) (by assumption))
theorem isi_str_bool {s : Str} {k : Tok} : Isi B (.str s k) (.type "bool") false σ := fun A Ψ Φ hh hd hu x h g d tk O => by
  refine wpAny_wide hh hd hu ?_
  have KX := x_kin O
  show wpAny (model prog B.w) _ _ _ _ _
  x_run
theorem isi_none_bool : Isi B .none (.type "bool") false σ := fun A Ψ Φ hh hd hu x h g d tk O => by
  refine wpAny_wide hh hd hu ?_
  have KX := x_kin O
  show wpAny (model prog B.w) _ _ _ _ _
  x_run
theorem Sw.neAt {a c : Value} {b : Bool} (h : ∀ s : Shared, SeqAt.RcNeAt A s a c b) (x : Φ (.bool b) σ) : Sw B A (compareOp .NotEq a c) Φ Ψ σ := fun hp g d k O => PySem.EqBoolInt.of_rcne (h _) (.mk O x)
theorem Sw.neBool {a b : Bool} (x : Φ (.bool (!(a == b))) σ) : Sw B A (compareOp .NotEq (.bool a) (.bool b)) Φ Ψ σ := Sw.neAt (fun _ => SeqAt.RcNeAt.bool_bool a b) x
theorem Sw.neWord {t : Th} {j : Nat} {v : Value} (hj : j < 6) (hv : (lwWord j)[0]? = some v) (x : Φ (.bool false) σ) : Sw B A (compareOp .NotEq (wordV t j) v) Φ Ψ σ := by
  match j, hj, hv with
  | 0, _, rfl => exact Sw.neAt (fun _ => SeqAt.RcNeAt.none_none) x
  | 1, _, rfl => exact Sw.neAt (fun _ => SeqAt.RcNeAt.int_int 7 _ 7 _) (by simpa using x)
  | 2, _, rfl => exact Sw.neAt (fun _ => SeqAt.RcNeAt.str_str (Str.ofString "a\"") _ (Str.ofString "a\"") _) (by simpa using x)
  | 3, _, rfl => exact Sw.neAt (fun _ => SeqAt.RcNeAt.bool_bool true true) x
  | 4, _, rfl => exact Sw.neAt (fun _ => SeqAt.RcNeAt.int_int (-12) _ (-12) _) (by simpa using x)
  | 5, _, rfl => exact Sw.neAt (fun _ => SeqAt.RcNeAt.str_str (Str.ofString "") _ (Str.ofString "") _) (by simpa using x)
  | n + 6, h, _ => exact absurd h (by omega)
theorem Sw.neLists {a b : Addr} {vs ws : List Value} {ss : List Str} (m1 : ∀ h g, Own B.w B.G h g σ → h.IsList a vs.toArray) (m2 : ∀ h g, Own B.w B.G h g σ → h.IsList b ws.toArray) (h1 : SA vs ss) (h2 : SA ws ss) (hu : A.units < cLine) (x : Φ (.bool false) σ) :
    Sw B A (compareOp .NotEq (.ref a) (.ref b)) Φ Ψ σ := fun h g d k O => by
  have key : ∀ {vs ws : List Value} {ss : List Str}, SA vs ss → SA ws ss → ∀ j (h1 : j < vs.length) (h2 : j < ws.length), ∃ s t u, vs[j] = .str s t ∧ ws[j] = .str s u := by
    intro vs ws ss h1
    induction h1 generalizing ws with
    | nil => intro _ j h; exact absurd h (Nat.not_lt_zero _)
    | cons h ih =>
      intro h2 j
      cases h2 with
      | cons h2 =>
        cases j with
        | zero => intro _ _; exact ⟨_, _, _, rfl, rfl⟩
        | succ j => intro a b; exact ih h2 j (by simpa using a) (by simpa using b)
  refine PySem.EqBoolInt.of_rcne (SeqAt.RcNeAt.lists (e := fun _ => true) (m1 h g O) (m2 h g O) (by simp [h1.length, h2.length]) hu fun j a b => ?_) (.mk O (by rw [show (List.range vs.toArray.size).all (fun _ => true) = true from List.all_eq_true.mpr fun _ _ => rfl]; exact x))
  obtain ⟨s, t, u, e1, e2⟩ := key h1 h2 j (by simpa using a) (by simpa using b)
  simp only [List.getElem_toArray, e1, e2]
  have := SeqAt.EqAt.str_str (A := A.in1) (s := ⟨h, g, d, k, B.os⟩) s t s u
  simpa using this
-- the dict's epoch held fast
def dictE (w : World) (ep : Nat) (kvs : List (Str × Value)) (o : Obj) : Prop := o.ExactDict ∧ ∃ es, o.data = .dict es ep ∧ KeysOf (PySem.strKind prog w) es ∧ Pairs (PySem.strKind prog w) es.toList kvs ∧ (kvs.map (·.1)).Nodup
theorem dictE_P {w : World} {ep : Nat} {kvs : List (Str × Value)} {o : Obj} (h : dictE w ep kvs o) : dictP w kvs o := by
  obtain ⟨h1, es, h2, h3⟩ := h
  exact ⟨h1, es, ep, h2, h3⟩
theorem Upd.of_mem {a : Addr} {P P' : Obj → Prop} : ∀ {σ : SH}, Cl.o a P ∈ σ → ∃ τ, Upd a P P' σ τ ∧ Upd a P' P τ σ
  | _ :: r, .head _ => ⟨_, .head, .head⟩
  | c :: r, .tail _ h => let ⟨τ, u, v⟩ := Upd.of_mem h; ⟨c :: τ, .tail u, .tail v⟩
theorem Upd.memT {a : Addr} {P P' : Obj → Prop} {σ τ : SH} (u : Upd a P P' σ τ) : Cl.o a P' ∈ τ := by
  obtain ⟨p, q, _, rfl⟩ := u.split; exact List.mem_append_right _ (.head _)
theorem Upd.stay {a : Addr} {P P' : Obj → Prop} {σ τ : SH} (u : Upd a P P' σ τ) {c : Cl} (h : c ∈ σ) (hn : c ≠ .o a P) : c ∈ τ := by
  obtain ⟨p, q, rfl, rfl⟩ := u.split
  rcases List.mem_append.mp h with h | h
  · exact List.mem_append_left _ h
  · rcases List.mem_cons.mp h with h | h
    · exact absurd h hn
    · exact List.mem_append_right _ (.tail _ h)
theorem Sw.fixEp {α : Type} {m : Sem α} {Φ : α → SH → Prop} {d : Addr} {kvs : List (Str × Value)} (md : Cl.o d (dictP B.w kvs) ∈ σ)
    (x : ∀ ep τ, Upd d (dictP B.w kvs) (dictE B.w ep kvs) σ τ → Upd d (dictE B.w ep kvs) (dictP B.w kvs) τ σ → Sw B A m Φ Ψ τ) : Sw B A m Φ Ψ σ := fun h g dr k O => by
  obtain ⟨o, ho, h1, es, ep, h2, h3⟩ := O.get md
  obtain ⟨τ, u, v⟩ := Upd.of_mem (P' := dictE B.w ep kvs) md
  exact x ep τ u v h g dr k (O.upd u (fun _ _ _ e => e) ⟨o, ho, h1, es, h2, h3⟩)
def kiP (d : Addr) (i n ep : Nat) (o : Obj) : Prop := o.cls = .type "dict_keyiterator" ∧ o.data = .fields #[.ref d, .int i 0, .int n 0, .int ep 0]
theorem dictAt_of {w : World} {h : Heap} {d : Addr} {ep : Nat} {kvs : List (Str × Value)} (x : ∃ o, h.get? d = some o ∧ dictE w ep kvs o) : h.DictAt (PySem.strKind prog w) d kvs ep := by
  obtain ⟨o, ho, h1, es, h2, h3, h4, h5⟩ := x
  exact ⟨o, es, ho, h1, h2, h3, h4, h5⟩
theorem keyIt_of {h : Heap} {it d : Addr} {i n ep : Nat} (x : ∃ o, h.get? it = some o ∧ kiP d i n ep o) : h.IsKeyIter it d i n ep := by
  obtain ⟨o, ho, a, b⟩ := x
  exact ⟨o, ho, a, b⟩
theorem Sw.iter_dict {d : Addr} {c : Cl} {ep : Nat} {kvs : List (Str × Value)} (hd : (d == sysModules) = false) (m : Cl.o d (dictE B.w ep kvs) ∈ c :: σ) (x : ∀ it, Φ (.ref it) (c :: .o it (kiP d 0 kvs.length ep) :: σ)) : Sw B A (pyIter (.ref d)) Φ Ψ (c :: σ) := fun h g dr k O =>
  wpAny_pyIter_dict (knd := PySem.strKind prog B.w) hd (dictAt_of (O.get m)) (.mk (O.push2 rfl (P := kiP d 0 kvs.length ep) ⟨rfl, rfl⟩) (x _))
theorem Sw.iter_key {it d : Addr} {i n ep : Nat} (m : Cl.o it (kiP d i n ep) ∈ σ) (x : Φ (.ref it) σ) : Sw B A (pyIter (.ref it)) Φ Ψ σ := fun h g dr k O => wpAny_pyIter_keyiter (keyIt_of (O.get m)) (.mk O x)
theorem Sw.next_key {it d : Addr} {i ep : Nat} {kvs : List (Str × Value)} {key : Str} {v : Value} {Φ : Option Value → SH → Prop} (u : Upd it (kiP d i kvs.length ep) (kiP d (i + 1) kvs.length ep) σ τ) (m : Cl.o d (dictE B.w ep kvs) ∈ σ) (hk : kvs[i]? = some (key, v))
    (x : ∀ k, Φ (some (.str key k)) τ) : Sw B A (pyNext (.ref it)) Φ Ψ σ := fun h g dr k O =>
  wpAny_pyNext_dict_item (knd := PySem.strKind prog B.w) (keyIt_of (O.get u.mem)) (dictAt_of (O.get m)) hk fun kv h' hkey hi hs => by
    obtain ⟨tk, rfl⟩ := Value.isStrOf_shape hkey
    exact .mk (O.same u hs (by obtain ⟨o, ho, a, b⟩ := hi; exact ⟨o, ho, a, b⟩)) (x tk)
theorem Sw.key_end {it d : Addr} {i ep : Nat} {kvs : List (Str × Value)} {Φ : Option Value → SH → Prop} (hh : A.handled = none) (u : Del (.o it (kiP d i kvs.length ep)) σ τ) (m : Cl.o d (dictE B.w ep kvs) ∈ σ) (hk : kvs[i]? = none)
    (x : Φ none τ) : Sw B A (pyNext (.ref it)) Φ Ψ σ := fun h g dr k O =>
  wpAny_pyNext_dict_end (knd := PySem.strKind prog B.w) hh (keyIt_of (O.get u.mem)) (dictAt_of (O.get m)) hk fun h' hs => .mk (O.extDel u hs) x
theorem Sw.list_dict {d : Addr} {c : Cl} {kvs : List (Str × Value)} (hh : A.handled = none) (hd : (d == sysModules) = false) (m : Cl.o d (dictP B.w kvs) ∈ c :: σ) (hl : kvs.length ≤ 1000)
    (x : ∀ l vs, SA vs (kvs.map (·.1)) → Φ (.ref l) (c :: .o l (listP vs) :: σ)) : Sw B A (PySem.call (.type "list") [.ref d]) Φ Ψ (c :: σ) := fun h g dr k O => by
  obtain ⟨ep, hat⟩ := (dictOf_of (O.get m)).dictAt
  refine kdl_call (kdl_dict (knd := PySem.strKind prog B.w) (kvs := kvs) (ep := ep) hd) hh hat (by rw [sizeLine_eq]; omega) fun h' tk acc' c' hk hL hI => ?_
  have hsa : SA acc'.toList (kvs.map (·.1)) := by
    have : ∀ (kvs : List (Str × Value)) (vs : List Value), vs.length = kvs.length → (∀ (j : Nat) (v : Value), vs[j]? = some v → ∃ k x, kvs[j]? = some (k, x) ∧ (PySem.strKind prog B.w).is k v = true) → SA vs (kvs.map (·.1)) := by
      intro kvs
      induction kvs with
      | nil => intro vs hl _; have := List.length_eq_zero_iff.mp hl; subst this; exact .nil
      | cons p kvs ih =>
        intro vs hl hv
        match vs, hl, hv with
        | v :: vs, hl, hv =>
          obtain ⟨k, x, e, hkk⟩ := hv 0 v rfl
          have e : p = (k, x) := by simpa using e
          subst e
          obtain ⟨t, rfl⟩ := Value.isStrOf_shape hkk
          exact .cons (ih vs (by simpa using hl) fun j v hj => by simpa using hv (j + 1) v (by simpa using hj))
    exact this kvs acc'.toList (by rw [Array.length_toList]; exact hI.1) fun j v hj => hI.2 j v (by rw [← Array.getElem?_toList]; exact hj)
  have O1 := O.adds (h' := h') (ρ := [(h.objs.size, listP acc'.toList)]) hk (by simp) (fun p hp => by
    simp only [List.mem_cons, List.not_mem_nil, or_false] at hp
    subst hp
    exact ⟨Heap.get?_none_of_le (Nat.le_refl _), _, hL, c', by rw [Array.toArray_toList]⟩)
  exact .mk (O1.perm (List.Perm.swap ..)) (x _ _ hsa)
end
end

-- LC
section
def NmAt (B : Bx) (r : Addr) (n : Nat) (τ : SH) : Prop := ∀ h g, Own B.w B.G h g τ → ∃ o m, h.get? r = some o ∧ o.cls = .type "tuple" ∧ o.data = .seq (lwNames.take n).toArray m
section
variable {B : Bx} {A : Around} {Ψ : Value → SH → Prop} {σ τ S : SH} {Φ : Value → SH → Prop} {env : Env}
theorem nm_adj {n : Nat} (h : n ≤ 3) : Builtin.Slice.sliceAdjust none (some (n : Int)) 1 (3 : Int) = (0, (n : Int)) := by
  match n, h with
  | 0, _ => decide
  | 1, _ => decide
  | 2, _ => decide
  | 3, _ => decide
theorem nm_pl {n : Nat} (h : n ≤ 3) : Builtin.Slice.slicePlaces 0 (n : Int) 1 = n := by
  match n, h with
  | 0, _ => decide
  | 1, _ => decide
  | 2, _ => decide
  | 3, _ => decide
theorem nm_pick {n : Nat} (h : n ≤ 3) : ((List.range n).filterMap fun (k : Nat) => lwNames.toArray[((0 : Int) + (k : Int) * 1).toNat]?).toArray = (lwNames.take n).toArray := by
  match n, h with
  | 0, _ => rfl
  | 1, _ => rfl
  | 2, _ => rfl
  | 3, _ => rfl
theorem nm_app {sl : Addr} {n : Nat} {u : Tok} {s : Shared} {E : Value → Shared → Prop} {Q : Int × Int × Nat → Shared → Prop} (hs : s.heap.IsSliceOf sl .none (.int n u) .none) (ha : n ≤ 3) (h : Q ((0 : Int), 1, n) s) :
    wpAny B.M A (Builtin.Slice.sliceApplied (.ref sl) (Pure.pure (3 : Int))) Q E s := by
  obtain ⟨os, hos, hcs, hds⟩ := id hs
  unfold Builtin.Slice.sliceApplied Builtin.Slice.sliceFields
  refine wpAny_bind (wpAny_bind (wpAny_field hos hds (x := .none) rfl (wpAny_bind (wpAny_field hos hds (x := .int n u) rfl (wpAny_bind (wpAny_field hos hds (x := .none) rfl (wpAny_pure ?_)))))))
  refine wpAny_bind (slicePart_none ?_)
  show wpAny _ _ (if ((1 : Int) == 0) = true then _ else _) _ _ s
  rw [if_neg (by decide)]
  refine wpAny_bind (slicePart_none (wpAny_bind (slicePart_int (wpAny_bind (wpAny_pure ?_)))))
  show wpAny _ _ (match Builtin.Slice.sliceAdjust none (some (n : Int)) 1 (3 : Int) with | (lo, hi) => Pure.pure (lo, (1 : Int), Builtin.Slice.slicePlaces lo hi 1)) _ _ s
  rw [nm_adj ha]
  show wpAny _ _ (Pure.pure ((0 : Int), (1 : Int), Builtin.Slice.slicePlaces 0 (n : Int) 1)) _ _ s
  rw [nm_pl ha]
  exact wpAny_pure h
theorem nm_get {n : Nat} {u : Tok} {sl : Addr} {c : Cl} {h : Heap} {g : Array GenState} {d : Drawn} {tk : Tok} (O : Own B.w B.G h g (c :: σ)) (hs : h.IsSliceOf sl .none (.int n u) .none) (hn : n ≤ 3)
    (x : ∀ r ρ, NmAt B r n (c :: (ρ ++ σ)) → Φ (.ref r) (c :: (ρ ++ σ))) : wpAny B.M A (getItem (.ref 194) (.ref sl)) (PA B Φ) (PA B Ψ) ⟨h, g, d, tk, B.os⟩ := by
  have e194 : h.get? 194 = some _ := O.keep _ _ (O.wf.K _ _ (names_at B.w))
  have ht : IsTup h 194 lwNames.toArray := ⟨_, e194, rfl, 0, rfl⟩
  have hT : (⟨h, g, d, tk, B.os⟩ : Shared).TypeIs (.ref 194) "tuple" := ht.typeIs
  obtain ⟨os, hos, hcs, hds⟩ := id hs
  have hTs : (⟨h, g, d, tk, B.os⟩ : Shared).TypeIs (.ref sl) "slice" := ⟨os, hos, hcs⟩
  unfold getItem
  refine wpAny_holding ?_
  refine wpAny_bind (wpAny_sequenceKey hT (by decide) ?_)
  refine wpAny_bind (wpAny_callSpecial?_slot (name := Str.ofString "__getitem__") hT slot_tuple_getitem
    (wpAny_call_entry slot_tuple_getitem hT entry_tuple_getitem ?_ (args_tuple_getitem _ _)))
  show wpAny _ _ (Builtin.Tuple.tupleItemsOf (.ref 194) >>= _) _ _ _
  refine wpAny_bind (tupleItemsOf_ ht ?_)
  refine wpAny_bind (wpAny_typeOf hTs ?_)
  rw [if_pos (by decide)]
  refine wpAny_bind (nm_app (n := n) hs hn ?_)
  by_cases h3 : n = 3
  · subst h3
    show wpAny _ _ (if ((0 : Int) == 0 && (1 : Int) == 1 && (3 : Nat) == lwNames.toArray.size) = true then (Builtin.Tuple.tupleIsExact (.ref 194) >>= _) else _) _ _ _
    rw [if_pos (by decide)]
    unfold Builtin.Tuple.tupleIsExact
    refine wpAny_bind (wpAny_bind (wpAny_typeOf hT (wpAny_pure ?_)))
    rw [if_pos (by decide)]
    refine wpAny_bind (wpAny_rule (wpAny_pure ⟨_, rfl, wpAny_pure ⟨_, O, rfl, x 194 [] fun h g O => ⟨_, 0, O.keep _ _ (O.wf.K _ _ (names_at B.w)), rfl, rfl⟩⟩⟩))
  · have hno : ¬ (((0 : Int) == 0 && (1 : Int) == 1 && n == lwNames.toArray.size) = true) := by
      have : (n == lwNames.toArray.size) = false := by rw [beq_eq_false_iff_ne]; exact h3
      rw [this]; simp
    show wpAny _ _ (if ((0 : Int) == 0 && (1 : Int) == 1 && n == lwNames.toArray.size) = true then _ else (Builtin.Tuple.tupleExact ((List.range n).filterMap fun (k : Nat) => lwNames.toArray[((0 : Int) + (k : Int) * 1).toNat]?).toArray >>= _)) _ _ _
    rw [if_neg hno, nm_pick hn]
    refine wpAny_bind (m := Builtin.Tuple.tupleExact _) (wpAny_newObj_type (wpAny_pure ⟨_, rfl, wpAny_pure ?_⟩) (by show (lwNames.take n).toArray.size ≤ sizeLine; rw [sizeLine_eq]; simp; omega))
    have O1 := O.push2 (o := { cls := .type "tuple", data := .seq (lwNames.take n).toArray }) rfl (P := tupP (lwNames.take n)) ⟨0, rfl⟩
    exact ⟨_, O1, rfl, x _ [.o h.objs.size (tupP (lwNames.take n))] fun h2 g2 O2 => by
      obtain ⟨o, ho, m, rfl⟩ := O2.get (.tail _ (.head _))
      exact ⟨_, m, ho, rfl, rfl⟩⟩
theorem Sw.namesTo {value upper : Expr} {p pos : Pos}
    (x : Sw B A (eval value env) (fun o τ => Sw B A (eval upper env) (fun u τ => ∃ (n : Nat) (k : Tok) (c : Cl) (τ' : SH), o = .ref 194 ∧ u = .int n k ∧ τ = c :: τ' ∧ n ≤ 3 ∧ ∀ r ρ, NmAt B r n (c :: (ρ ++ τ')) → Φ (.ref r) (c :: (ρ ++ τ'))) Ψ τ) Ψ σ)
    (ht : ∀ o r, letTemporaryGo value o r = Pure.pure () := by intro _ _; with_unfolding_all rfl) : Sw B A (eval (.Subscript value (.Slice none (some upper) none p) pos) env) Φ Ψ σ := fun h g d k O => by
  refine wpAny_Subscript_Slice (T := "tuple") slot_tuple_getitem.lookup (wpAny_mono (x h g d k O) (fun o s q => ?_) fun _ _ q => q) ht
  obtain ⟨τ, O, e, q⟩ := q
  obtain ⟨h, g, d, k, os⟩ := s
  cases e
  refine wpAny_Slice ?_
  rw [evalPart_none]
  refine wpAny_pure (wpAny_mono (q h g d k O) (fun u s q => ?_) fun _ _ q => q)
  obtain ⟨τ, O, e, n, k2, c, τ', rfl, rfl, rfl, hn, q⟩ := q
  obtain ⟨h, g, d, k, os⟩ := s
  cases e
  refine wpAny_pure ?_
  have O1 := (O.push (o := { cls := .type "slice", data := .fields #[.none, .int (n : Int) k2, .none] }) rfl (P := fun _ => True) trivial).sublist (τ := c :: τ') (.cons _ (.refl _))
  have e194 := O1.keep _ _ (O1.wf.K _ _ (names_at B.w))
  exact ⟨⟨_, e194, rfl⟩, nm_get O1 (Heap.IsSliceOf.new ..) hn q⟩
theorem Sw.listT {c : Cl} {r : Addr} {n : Nat} (hn : n ≤ 3) (m : NmAt B r n (c :: σ)) (x : ∀ l, Φ (.ref l) (c :: .o l (listP (lwNames.take n)) :: σ)) : Sw B A (PySem.call (.type "list") [.ref r]) Φ Ψ (c :: σ) := fun h g d k O => by
  obtain ⟨o, m, ho, hc, hd⟩ := m h g O
  refine call_list_seq r (.inr rfl) ho hc hd (fun h' c' hk hL => ?_) (by rw [sizeLine_eq]; simp; omega)
  have O1 := O.adds (h' := h') (ρ := [(h.objs.size, listP (lwNames.take n))]) hk (by simp) (fun p hp => by
    simp only [List.mem_cons, List.not_mem_nil, or_false] at hp
    subst hp
    exact ⟨Heap.get?_none_of_le (Nat.le_refl _), _, hL, c', rfl⟩)
  exact .mk (O1.perm (List.Perm.swap ..)) (x _)
theorem names_SA {n : Nat} (h : n ≤ 3) : SA (lwNames.take n) ((List.range n).map nameK) := by
  match n, h with
  | 0, _ => exact .nil
  | 1, _ => exact .cons .nil
  | 2, _ => exact .cons (.cons .nil)
  | 3, _ => exact .cons (.cons (.cons .nil))
end
end

-- LD
section
@[reducible] def lsKs : List Str := ["things", "kinds", "kind", "parts", "held", "v", "part"]
@[reducible] def lsFs : List Str := ["thing"]
@[reducible] def lsPs : List Str := ["things", "kinds"]
def lsSt : Stmt := topStmt 21
theorem ls_fs : (cellN (fnScope lsSt).names).reverse = lsFs := by decide +kernel
theorem ls_b : okB (fnScope lsSt) lsKs lsFs false = true := by decide +kernel
theorem ls_s (w : World) : (fdK w 206).scope = fnScope lsSt := by kernel_rfl
theorem ls_e (w : World) : (fdK w 206).body = .stmts (fnBody lsSt) := by kernel_rfl
theorem ls_clos (w : World) : (fdK w 206).closure = [] := by kernel_rfl
theorem ls_bind (w : World) (a b : Value) : bindArgs (fdK w 206) ⟨[a, b], []⟩ = Pure.pure (lsPs.zip [a, b]) := by kernel_rfl
theorem ls_ok (w : World) : FnOkC (fdK w 206) (fnBody lsSt) false := ⟨by kernel_rfl, by kernel_rfl, ls_e w, ls_clos w⟩
@[reducible] def lsGs : List Str := ["zip", "len", "list", "_law_names", "_law_words", "isinstance", "bool"]
theorem ls_g (w : World) (L : Addr) (cs : List Addr) : GlbOk (envC (fdK w 206) L 206 cs) lsGs := glb_of (ls_s w) (by kernel_rfl) (by kernel_rfl) (by decide +kernel)
theorem b_zip : bootBuiltins (Str.ofString "zip") = some (.type "zip") := by decide +kernel
theorem b_len : bootBuiltins (Str.ofString "len") = some (.builtin "len") := by decide +kernel
def lsFor : Stmt := ((fnBody lsSt)[0]?).getD (.Pass default)
def lsFor2 : Stmt := ((forBdy lsFor)[2]?).getD (.Pass default)
local macro_rules | `(tactic| walk_at "gl") => `(tactic| with_reducible first | exact g_names _ | exact g_words _)
local macro_rules | `(tactic| walk_at "bl") => `(tactic| with_reducible first | exact b_zip | exact b_len | exact b_list | exact b_isinstance | exact b_bool)
@[reducible] def lsVs (tl kl : Addr) (kind parts held v part : Option Value) : List (Option Value) := [some (.ref tl), some (.ref kl), kind, parts, held, v, part]
section
variable {B : Bx} {A : Around} {Ψ : Value → SH → Prop} {σ τ S R T : SH} {env : Env} {t : Th} {K : Kd}
structure LsOk (B : Bx) (tl : Addr) (K : Kd) (t : Th) (R : SH) : Prop where
  kd : KdOk K t R
  tl : Cl.o tl (listP ((List.range t.sz).map fun i => .ref (t.ad i))) ∈ R
  th : ∀ i, i < t.sz → Cl.o (t.ad i) (t.word B.w i) ∈ R
theorem LsOk.mono {tl : Addr} {R R' : SH} (x : LsOk B tl K t R) (h : ∀ c ∈ R, c ∈ R') : LsOk B tl K t R' := ⟨x.kd.mono h, h _ x.tl, fun i hi => h _ (x.th i hi)⟩
theorem ls_isi {j : Nat} (hj : j < 6) : Isi B (wordV t j) (.type "bool") (decide (j = 3)) σ := by
  match j, hj with
  | 0, _ => exact isi_none_bool
  | 1, _ => exact isi_int_bool
  | 2, _ => exact isi_str_bool
  | 3, _ => exact isi_bool_bool
  | 4, _ => exact isi_int_bool
  | 5, _ => exact isi_str_bool
  | n + 6, h => exact absurd h (by omega)
theorem lwWord_val : ∀ j, j < 6 → ∃ v, (lwWord j)[0]? = some v
  | 0, _ => ⟨_, rfl⟩
  | 1, _ => ⟨_, rfl⟩
  | 2, _ => ⟨_, rfl⟩
  | 3, _ => ⟨_, rfl⟩
  | 4, _ => ⟨_, rfl⟩
  | 5, _ => ⟨_, rfl⟩
  | n + 6, h => absurd h (by omega)
theorem Solid.up {a : Addr} {c : Cl} (h : Solid a σ) : Solid a (c :: σ) := let ⟨P, h1, h2⟩ := h; ⟨P, .tail _ h1, h2⟩
theorem ls_solid {tl : Addr} {j : Nat} (lo : LsOk B tl K t σ) (hj : j < t.sz) : Solid (t.ad j) σ := by
  refine ⟨t.word B.w j, lo.th j hj, fun ob h => ?_⟩
  unfold Th.word at h
  split at h
  · rw [h.1.1]; decide
  · obtain ⟨n, rfl⟩ := h; intro e; simp at e
-- one turn of the inner loop
theorem ls_turn {tl hl : Addr} {q : Int} {kq : Tok} {kind parts : Option Value} {Φ : Flow → SH → Prop} (E : EnvOk env lsKs lsFs) (GE : GlbOk env lsGs) (lo : LsOk B tl K t σ) (to : t.Ok) (hsz : t.sz ≤ 3) (hh : A.handled = none) (hr : Roomy A 1)
    (hq : -6 ≤ q ∧ q < t.sz)
    (y : Φ .next (.o env.locals (frameP lsKs (lsVs tl K.kl kind parts (some (.ref hl)) (some (t.pv q)) (some (.int q kq)))) :: σ)) :
    Sw B A (execs (forBdy lsFor2) env) Φ NoE (.o env.locals (frameP lsKs (lsVs tl K.kl kind parts (some (.ref hl)) (some (t.pv q)) (some (.int q kq)))) :: σ) := by
  refine Sw.execs_cons (Sw.s_If ?_)
  walk_at "py"
  refine Sw.geI ?_
  refine Sw.truthy_bool ?_
  by_cases h : q < 0
  · rw [decide_eq_false (by omega)]
    walk_at "py"
    refine Sw.ltI ?_
    refine Sw.truthy_bool ?_
    rw [decide_eq_true h]
    walk_at "py"
    refine Sw.e_SubscriptA ?_
    walk_at "py"
    refine Sw.negI ?_
    intro k1
    walk_at "py"
    refine Sw.subI ?_
    intro k2
    have hwx : (-1 - q).toNat < 6 := by omega
    have hpv : t.pv q = wordV t (-1 - q).toNat := by unfold Th.pv; rw [if_pos h]; rfl
    refine atK (words_at B.w) rfl rfl (by omega) (by omega) (lwWords_at _ hwx) ?_
    walk_at "py"
    obtain ⟨vw, hvw⟩ := lwWord_val _ hwx
    refine atK (word_at B.w _ hwx) rfl rfl (by decide) (by decide) hvw ?_
    rw [hpv]
    refine Sw.neWord hwx hvw ?_
    walk_at "py"
    refine ⟨trivial, ls_isi hwx _ _ _ hh (by have := hr.depth; omega) (by have := hr.units; omega) ?_⟩
    walk_at "py"
    refine Sw.negI ?_
    intro k3
    refine Sw.eqI ?_
    refine Sw.neBool ?_
    refine Sw.truthy_bool ?_
    have e1 : (!(decide ((-1 - q).toNat = 3) == (q == -4))) = false := by
      by_cases h4 : q = -4
      · subst h4; decide
      · have h5 : (q == -4) = false := by simpa using h4
        have h6 : decide ((-1 - q).toNat = 3) = false := decide_eq_false (by omega)
        rw [h5, h6]; rfl
    rw [e1]
    walk_at "py"
    rw [← hpv]
    exact y
  · rw [decide_eq_true (by omega)]
    walk_at "py"
    have hj : q.toNat < t.sz := by omega
    have hpv : t.pv q = .ref (t.ad q.toNat) := by unfold Th.pv; rw [if_neg h]
    refine atL (.tail _ lo.tl) (by omega) (by omega) (v := .ref (t.ad q.toNat)) (by simp [hj]) ?_
    rw [hpv] at y ⊢
    have hs : Solid (t.ad q.toNat) σ := ls_solid lo hj
    refine Sw.isnot_refs hs.up hs.up ?_
    rw [decide_eq_true rfl]
    refine Sw.truthy_bool ?_
    refine ite_neg (by decide) ?_
    walk_at "py"
    refine Sw.ltI ?_
    refine Sw.truthy_bool ?_
    rw [decide_eq_false h]
    walk_at "py"
    exact y
theorem ls_inner {i : Nat} {tl hl : Addr} {kind parts : Option Value} {Q : Result → SH → Prop} (E : EnvOk env lsKs lsFs) (GE : GlbOk env lsGs) (lo : LsOk B tl K t σ) (to : t.Ok) (hi : i < t.sz) (hsz : t.sz ≤ 3) (hh : A.handled = none) (hr : Roomy A 1)
    (mh : Cl.o hl (listP ((t.pt i).map t.pv)) ∈ σ) {z TI TO i1 i2 : Addr} (hQ : ∀ v part, Q (.ok .next) (.o env.locals (frameP lsKs (lsVs tl K.kl kind parts (some (.ref hl)) v part)) :: σ)) :
    ∀ (ps dn : List Int), t.pt i = dn ++ ps → ∀ (v part : Option Value) (a b : Value),
      Sc B A (.forLoop (forTgt lsFor2) (.ref z) (forBdy lsFor2) [] env) Q (.o env.locals (frameP lsKs (lsVs tl K.kl kind parts (some (.ref hl)) v part)) :: ((⟨z, TI, TO, i1, i2, hl, K.pl i⟩ : Zp).cells .none dn.length dn.length a b ++ σ)) := by
  intro ps
  induction ps with
  | nil =>
    intro dn hdn v part a b
    refine Sc.for1 ?_
    refine Sw.subp (τ := (⟨z, TI, TO, i1, i2, hl, K.pl i⟩ : Zp).cells .none dn.length dn.length a b ++ .o env.locals (frameP lsKs (lsVs tl K.kl kind parts (some (.ref hl)) v part)) :: σ) ?_ (by walk_at "subp")
    refine Sw.zip_end (xs := (t.pt i).map t.pv) (ys := K.pv i) hh (.tail _ mh) (.tail _ (lo.kd.parts i hi)) (.inl (by rw [hdn]; simp)) ?_
    exact Sw.execs_nil (hQ v part)
  | cons q ps ih =>
    intro dn hdn v part a b
    obtain ⟨kq, hkq⟩ := (lo.kd.numb i hi).get (i := dn.length) (n := q) (by rw [hdn]; simp)
    have hq := to.low i hi q (by rw [hdn]; simp)
    refine Sc.for1 ?_
    refine Sw.subp (τ := (⟨z, TI, TO, i1, i2, hl, K.pl i⟩ : Zp).cells .none dn.length dn.length a b ++ .o env.locals (frameP lsKs (lsVs tl K.kl kind parts (some (.ref hl)) v part)) :: σ) ?_ (by walk_at "subp")
    refine Sw.next_zip (xs := (t.pt i).map t.pv) (ys := K.pv i) (x := t.pv q) (y := .int q kq) (.tail _ mh) (.tail _ (lo.kd.parts i hi)) (by rw [hdn]; simp) hkq fun tz => ?_
    refine Sw.go_zip ?_
    refine Sw.subp (τ := .o env.locals (frameP lsKs (lsVs tl K.kl kind parts (some (.ref hl)) v part)) :: .o tz (tupP [t.pv q, .int q kq]) :: ((⟨z, TI, TO, i1, i2, hl, K.pl i⟩ : Zp).cells .none (dn.length + 1) (dn.length + 1) (t.pv q) (.int q kq) ++ σ)) ?_ (by walk_at "subp")
    refine Sw.assign_pair hh (by walk_at "mem") ?_
    refine Sw.assign_Name (Sw.st E (NPut.tail (.tail (.tail (.tail (.tail .head))))) ?_)
    refine Sw.assign_Name (Sw.st E (NPut.tail (.tail (.tail (.tail (.tail (.tail .head)))))) ?_)
    refine ls_turn E GE (lo.mono fun c hc => .tail _ (List.mem_append_right _ hc)) to hsz hh hr hq ?_
    have z := ih (dn ++ [q]) (by rw [hdn]; simp) (some (t.pv q)) (some (.int q kq)) (t.pv q) (.int q kq)
    rw [show (dn ++ [q]).length = dn.length + 1 by simp] at z
    intro h g d k O
    exact z h g d k (O.subp (by walk_at "subp"))
end
end

-- LE
section
local macro_rules | `(tactic| walk_at "gl") => `(tactic| with_reducible first | exact g_names _ | exact g_words _)
local macro_rules | `(tactic| walk_at "bl") => `(tactic| with_reducible first | exact b_zip | exact b_len | exact b_list | exact b_isinstance | exact b_bool)
local macro_rules | `(tactic| walk_at "subl") => `(tactic| (refine Subp.of_cnt fun _ => ?_; simp only [cnt_append, cnt_cons, cnt_nil, lsVs]; omega))
local macro_rules | `(tactic| walk_at "off") => `(tactic| repeat (first | refine ite_neg Bool.false_ne_true ?_ | refine ite_pos (c := true = true) rfl ?_ | refine Sw.isTrue_or0 ?_ | refine Sw.isTrue_and0 ?_))
def asgVal : Stmt → Expr
  | .Assign _ v _ => v
  | _ => default
def ifElse : Expr → Expr
  | .IfExp _ _ c _ => c
  | _ => default
def lcScope : Expr → Scope
  | .ListComp _ _ sc _ => sc
  | _ => default
def lsCE : Expr := ifElse (asgVal (((forBdy lsFor)[0]?).getD (.Pass default)))
def lsSc : Scope := lcScope lsCE
theorem CompOk.of {env : Env} {outer scope : Scope} {cl : List (Str × Addr)} {ks fs : List Str} (hs : env.scope = outer) (hc : closureFor scope env = Pure.pure cl)
    (h : (noCellB scope && decide (scope.kind = .function) && scope.names.all (fun y => !(decide (y.2 = .local)) || decide (scope.names.lookup y.1 = some .local)) && okB (relS scope outer) ks fs false) = true) : CompOk env scope cl ks fs := by
  simp only [Bool.and_eq_true, decide_eq_true_eq, List.all_eq_true, Bool.or_eq_true, Bool.not_eq_true', decide_eq_false_iff_not] at h
  obtain ⟨⟨⟨h1, h2⟩, h3⟩, h4⟩ := h
  refine ⟨hc, fun y hy => of_decide_eq_true (List.all_eq_true.mp h1 y hy), h2, fun y hy e => ?_, fun C => EnvOk.of (env := compEnvC scope cl C env) (relabel_eq hs) h4⟩
  rcases h3 y hy with h | h
  · exact absurd e h
  · exact h
theorem ls_comp {env : Env} {ct : Addr} (hs : env.scope = fnScope lsSt) (CE : env.cells = lsFs.zip [ct]) : CompOk env lsSc [(Str.ofString "thing", ct)] ["name"] lsFs :=
  CompOk.of hs (by unfold closureFor cellOf; rw [CE]; rfl) (by decide +kernel)
section
variable {B : Bx} {A : Around} {Ψ : Value → SH → Prop} {σ τ S R T : SH} {env : Env} {t : Th} {K : Kd}
-- the inner for of a turn
theorem ls_for2 {i : Nat} {tl hl : Addr} {kind : Option Value} {v part : Option Value} {Φ : Flow → SH → Prop} (E : EnvOk env lsKs lsFs) (GE : GlbOk env lsGs) (lo : LsOk B tl K t σ) (to : t.Ok) (hi : i < t.sz) (hsz : t.sz ≤ 3) (hh : A.handled = none) (hr : Roomy A 1)
    (mh : Cl.o hl (listP ((t.pt i).map t.pv)) ∈ σ) (y : ∀ v part, Φ .next (.o env.locals (frameP lsKs (lsVs tl K.kl kind (some (.ref (K.pl i))) (some (.ref hl)) v part)) :: σ)) :
    Sw B A (execs ((forBdy lsFor).drop 2) env) Φ NoE (.o env.locals (frameP lsKs (lsVs tl K.kl kind (some (.ref (K.pl i))) (some (.ref hl)) v part)) :: σ) := by
  refine Sw.execs_cons (Sw.s_For ?_)
  refine Sw.e_Call_Name ?_
  walk_at "py"
  refine ⟨trivial, ?_⟩
  refine Sw.call_zip (.tail _ mh) (.tail _ (lo.kd.parts i hi)) fun z TI TO i1 i2 => ?_
  refine Sw.iter_zip (Z := ⟨z, TI, TO, i1, i2, hl, K.pl i⟩) ?_
  refine ls_inner (Q := _) E GE lo to hi hsz hh hr mh (fun v part => ?_) (t.pt i) [] rfl v part _ _
  exact Sw.execs_nil (y v part)
theorem ls_turn0 {i : Nat} {tl ct : Addr} {kk : Tok} {held v part : Option Value} {Φ : Flow → SH → Prop} (E : EnvOk env lsKs lsFs) (GE : GlbOk env lsGs) (CE : env.cells = lsFs.zip [ct]) (lo : LsOk B tl K t σ) (to : t.Ok) (hi : i < t.sz) (hsz : t.sz ≤ 3) (hh : A.handled = none) (hr : Roomy A 1)
    (hd : t.isD i = false)
    (y : ∀ held v part, Φ .next (.o env.locals (frameP lsKs (lsVs tl K.kl (some (.int 0 kk)) (some (.ref (K.pl i))) held v part)) :: .o ct (cellP (some (.ref (t.ad i)))) :: σ)) :
    Sw B A (execs (forBdy lsFor) env) Φ NoE (.o env.locals (frameP lsKs (lsVs tl K.kl (some (.int 0 kk)) (some (.ref (K.pl i))) held v part)) :: .o ct (cellP (some (.ref (t.ad i)))) :: σ) := by
  have hth := lo.th i hi
  unfold Th.word at hth
  rw [hd] at hth
  simp only [Bool.false_eq_true, if_false] at hth
  refine Sw.execs_cons (Sw.s_Assign_Name ?_)
  walk_at "py"
  refine Sw.eqI ?_
  refine Sw.truthy_bool ?_
  refine ite_pos (by decide) ?_
  walk_at "py"
  refine ⟨trivial, Sw.lenL (vs := (t.pt i).map t.pv) (by walk_at "mem") (by have := to.len i hi; simp; omega) fun k1 => ?_⟩
  walk_at "py"
  refine ⟨trivial, Sw.lenL (vs := K.pv i) (.tail _ (.tail _ (lo.kd.parts i hi))) (by rw [(lo.kd.numb i hi).length]; have := to.len i hi; omega) fun k2 => ?_⟩
  refine Sw.neI ?_
  refine Sw.truthy_bool ?_
  refine ite_neg (by rw [List.length_map, (lo.kd.numb i hi).length]; simp) ?_
  walk_at "py"
  refine Sw.eqI ?_
  refine Sw.truthy_bool ?_
  refine ite_neg (by decide) ?_
  walk_at "off"
  refine Sw.execs_nil ?_
  refine ls_for2 E GE (lo.mono fun c hc => .tail _ hc) to hi hsz hh hr (.tail _ hth) ?_
  intro v part
  exact y _ v part
theorem Sc.sub' {c : Code} {Q : Result → SH → Prop} (x : Sc B A c Q τ) (hs : Subp τ σ) : Sc B A c Q σ := fun h g d k O => x h g d k (O.subp hs)
-- the values of a dict, one by one
theorem Sw.getE {d : Addr} {ep : Nat} {kvs : List (Str × Value)} {key : Str} {k : Tok} {v : Value} {Φ : Value → SH → Prop} (m : Cl.o d (dictE B.w ep kvs) ∈ σ) (hv : valueAt kvs key = some v) (x : Φ v σ) : Sw B A (getItem (.ref d) (.str key k)) Φ Ψ σ := fun h g dr tk O =>
  wpAny_getItem_of (knd := PySem.strKind prog B.w) (strKind_is _ _ _ _) (dictAt_of (O.get m)).dictOf.mapOf hv (.mk O x)
theorem Sw.fixEp2 {α : Type} {m : Sem α} {Φ : α → SH → Prop} {c1 c2 : Cl} {d : Addr} {kvs : List (Str × Value)} (md : Cl.o d (dictP B.w kvs) ∈ σ)
    (x : ∀ ep σ', Upd d (dictP B.w kvs) (dictE B.w ep kvs) σ σ' → Upd d (dictE B.w ep kvs) (dictP B.w kvs) σ' σ → Sw B A m Φ Ψ (c1 :: c2 :: σ')) : Sw B A m Φ Ψ (c1 :: c2 :: σ) := fun h g dr k O => by
  obtain ⟨o, ho, h1, es, ep, h2, h3⟩ := O.get (.tail _ (.tail _ md))
  obtain ⟨τ, u, v⟩ := Upd.of_mem (P' := dictE B.w ep kvs) md
  exact x ep τ u v h g dr k (O.upd (.tail (.tail u)) (fun _ _ _ e => e) ⟨o, ho, h1, es, h2, h3⟩)
theorem valueAt_mid {kv1 kv2 : List (Str × Value)} {key : Str} {v : Value} (hn : ((kv1 ++ (key, v) :: kv2).map (·.1)).Nodup) : valueAt (kv1 ++ (key, v) :: kv2) key = some v := by
  unfold valueAt
  have h1 : kv1.find? (fun kv => kv.1 = key) = none := by
    rw [List.find?_eq_none]
    intro x hx e
    rw [List.map_append, List.map_cons] at hn
    have := (List.nodup_append.mp hn).2.2 x.1 (List.mem_map_of_mem hx) key (.head _)
    exact this (by simpa using e)
  rw [List.find?_append, h1]
  simp
@[reducible] def lcElt : Expr → Expr
  | .ListComp e _ _ _ => e
  | _ => default
@[reducible] def lcIter : Expr → Expr
  | .ListComp _ (g :: _) _ _ => g.iter
  | _ => default
@[reducible] def lcTgt : Expr → Expr
  | .ListComp _ (g :: _) _ _ => g.target
  | _ => default
@[reducible] def lcPos : Expr → Pos
  | .ListComp _ _ _ p => p
  | _ => default
abbrev lcOf (e : Expr) : Expr := lc (lcElt e) (lcTgt e) (lcIter e) (lcScope e) (lcPos e)
theorem ls_cloop {cenv : Env} {d ct it acc : Addr} {ep : Nat} {kvs : List (Str × Value)} {Q : Result → SH → Prop} (E : EnvOk cenv ["name"] lsFs) (CE : cenv.cells = lsFs.zip [ct]) (hh : A.handled = none)
    (mc : Cl.o ct (cellP (some (.ref d))) ∈ σ) (md : Cl.o d (dictE B.w ep kvs) ∈ σ) (hn : (kvs.map (·.1)).Nodup) (hl : kvs.length ≤ 1000)
    (hQ : ∀ vs, Q (.ok .next) (.o cenv.locals (frameP ["name"] vs) :: .o acc (listP (kvs.map (·.2))) :: σ)) :
    ∀ (kv2 kv1 : List (Str × Value)), kvs = kv1 ++ kv2 → ∀ u, Sc B A (.compLoop (lcOf lsCE) 0 (.ref it) (.ref acc) cenv) Q (.o cenv.locals (frameP ["name"] [u]) :: .o acc (listP (kv1.map (·.2))) :: .o it (kiP d kv1.length kvs.length ep) :: σ) := by
  intro kv2
  induction kv2 with
  | nil =>
    intro kv1 he u
    refine Sc.comp1 ?_
    refine Sw.key_end (d := d) (i := kv1.length) (ep := ep) (kvs := kvs) hh (by walk_at "del") (.tail _ (.tail _ (.tail _ md))) (by rw [he]; simp) ?_
    have := hQ [u]
    rw [he, List.append_nil] at this
    exact this
  | cons p kv2 ih =>
    intro kv1 he u
    obtain ⟨key, v⟩ := p
    refine Sc.comp1 ?_
    refine Sw.next_key (d := d) (i := kv1.length) (ep := ep) (kvs := kvs) (key := key) (v := v) (by walk_at "upd") (.tail _ (.tail _ (.tail _ md))) (by rw [he]; simp) fun k => ?_
    refine Sw.pure ?_
    refine Sw.assign_Name (Sw.st E .head ?_)
    show Sw B A (eval (.Subscript _ _ _) cenv) _ _ _
    refine Sw.e_SubscriptA ?_
    walk_at "py"
    refine ⟨⟨"dict", _, F.slot_dict_getitem.lookup, TyIs.own (.tail _ (.tail _ (.tail _ md))) fun o h => h.1.1⟩, Sw.getE (.tail _ (.tail _ (.tail _ md))) (by rw [he] at hn ⊢; exact valueAt_mid hn) ?_⟩
    refine Sw.appendL (vs := kv1.map (·.2)) (by walk_at "upd") (by rw [he] at hl; simp at hl ⊢; omega) ?_
    have z := ih (kv1 ++ [(key, v)]) (by rw [he]; simp) (some (.str key k))
    rw [List.map_append, show (kv1 ++ [(key, v)]).length = kv1.length + 1 by simp] at z
    exact z
theorem Th.kv_snd (t : Th) (i : Nat) : (t.kv i).map (·.2) = (t.pt i).map t.pv := by
  unfold Th.kv
  rw [List.map_map]
  have : ∀ (l : List Int) (n : Nat), (l.zipIdx n).map ((fun p : Str × Value => p.2) ∘ fun x => (nameK x.2, t.pv x.1)) = l.map t.pv := by
    intro l
    induction l with
    | nil => intro n; rfl
    | cons a l ih => intro n; rw [List.zipIdx_cons, List.map_cons, List.map_cons, ih]; rfl
  exact this _ _
theorem Th.kv_fst (t : Th) (i : Nat) : (t.kv i).map (·.1) = (List.range (t.pt i).length).map nameK := by
  unfold Th.kv
  rw [List.map_map]
  have : ∀ (l : List Int) (n : Nat), (l.zipIdx n).map ((fun p : Str × Value => p.1) ∘ fun x => (nameK x.2, t.pv x.1)) = (List.range' n l.length).map nameK := by
    intro l
    induction l with
    | nil => intro n; rfl
    | cons a l ih => intro n; rw [List.zipIdx_cons, List.map_cons, ih, List.length_cons, List.range'_succ, List.map_cons]; rfl
  rw [List.range_eq_range']
  exact this _ _
theorem Th.kv_length (t : Th) (i : Nat) : (t.kv i).length = (t.pt i).length := by unfold Th.kv; simp
theorem ls_turn1 {i : Nat} {tl ct : Addr} {kk : Tok} {held v part : Option Value} {Φ : Flow → SH → Prop} (E : EnvOk env lsKs lsFs) (GE : GlbOk env lsGs) (hs : env.scope = fnScope lsSt) (CE : env.cells = lsFs.zip [ct]) (lo : LsOk B tl K t σ) (to : t.Ok) (hi : i < t.sz) (hsz : t.sz ≤ 3) (hh : A.handled = none) (hr : Roomy A 1)
    (hd : t.isD i = true) (hp : (t.pt i).length ≤ 3)
    (y : ∀ held v part ρ, Φ .next (.o env.locals (frameP lsKs (lsVs tl K.kl (some (.int 1 kk)) (some (.ref (K.pl i))) held v part)) :: .o ct (cellP (some (.ref (t.ad i)))) :: (ρ ++ σ))) :
    Sw B A (execs (forBdy lsFor) env) Φ NoE (.o env.locals (frameP lsKs (lsVs tl K.kl (some (.int 1 kk)) (some (.ref (K.pl i))) held v part)) :: .o ct (cellP (some (.ref (t.ad i)))) :: σ) := by
  have hth := lo.th i hi
  unfold Th.word at hth
  rw [hd, if_pos rfl] at hth
  have hsm := to.sys i hi
  have hkn : ((t.kv i).map (·.1)).Nodup := by
    rw [Th.kv_fst]
    match h : (t.pt i).length, hp with
    | 0, _ => decide
    | 1, _ => decide
    | 2, _ => decide
    | 3, _ => decide
  refine Sw.shrinkN ?_
  refine Sw.execs_cons (Sw.s_Assign_Name ?_)
  walk_at "py"
  refine Sw.eqI ?_
  refine Sw.truthy_bool ?_
  refine ite_neg (by decide) ?_
  refine Sw.listComp (ls_comp hs CE) ?_
  walk_at "py"
  refine Sw.fixEp2 hth fun ep σ' u bk => ?_
  refine Sw.iter_dict hsm (.tail _ (.tail _ u.memT)) fun it => ?_
  intro acc C
  refine ⟨Sw.iter_key (d := t.ad i) (i := 0) (n := (t.kv i).length) (ep := ep) (by walk_at "mem") ⟨rfl, rfl⟩, ?_⟩
  have hE := (ls_comp hs CE).env C
  refine Sc.sub' (ls_cloop (cenv := compEnvC lsSc [(Str.ofString "thing", ct)] C env) (d := t.ad i) (ct := ct) (it := it) (acc := acc) (ep := ep) (kvs := t.kv i) (σ := .o env.locals (frameP lsKs (lsVs tl K.kl (some (.int 1 kk)) (some (.ref (K.pl i))) held v part)) :: .o ct (cellP (some (.ref (t.ad i)))) :: σ') hE rfl hh (by walk_at "mem") (.tail _ (.tail _ u.memT)) hkn (by rw [Th.kv_length]; omega) (fun vs => ?_) (t.kv i) [] rfl none) (by refine Subp.of_cnt fun _ => ?_; simp only [compEnvC, cstate, cnt_append, cnt_cons, cnt_nil, List.map_nil, List.map_cons, List.length_nil]; omega)
  refine ⟨rfl, vs, .o env.locals (frameP lsKs (lsVs tl K.kl (some (.int 1 kk)) (some (.ref (K.pl i))) held v part)) :: .o acc (listP ((t.pt i).map t.pv)) :: .o ct (cellP (some (.ref (t.ad i)))) :: σ', by rw [Th.kv_snd]; refine Subp.of_cnt fun _ => ?_; simp only [compEnvC, cnt_append, cnt_cons, cnt_nil]; omega, ?_⟩
  refine Sw.weak (.tail (.tail (.tail bk))) (fun o h => dictE_P h) ?_
  refine Sw.st E (NPut.tail (.tail (.tail (.tail .head)))) ?_
  refine Sw.execs_cons (Sw.s_If ?_)
  walk_at "py"
  refine ⟨trivial, Sw.lenL (vs := (t.pt i).map t.pv) (by walk_at "mem") (by have := to.len i hi; simp; omega) fun k1 => ?_⟩
  walk_at "py"
  refine ⟨trivial, Sw.lenL (vs := K.pv i) (.tail _ (.tail _ (.tail _ (lo.kd.parts i hi)))) (by rw [(lo.kd.numb i hi).length]; have := to.len i hi; omega) fun k2 => ?_⟩
  refine Sw.neI ?_
  refine Sw.truthy_bool ?_
  refine ite_neg (by rw [List.length_map, (lo.kd.numb i hi).length]; simp) ?_
  walk_at "py"
  refine Sw.eqI ?_
  refine Sw.truthy_bool ?_
  refine ite_pos (by decide) ?_
  walk_at "py"
  refine ⟨trivial, Sw.list_dict hh hsm (.tail _ (.tail _ (.tail _ hth))) (by rw [Th.kv_length]; omega) fun ld vd hsd => ?_⟩
  walk_at "py"
  refine Sw.namesTo ?_
  walk_at "py"
  refine ⟨trivial, Sw.lenL (vs := K.pv i) (.tail _ (.tail _ (.tail _ (.tail _ (lo.kd.parts i hi))))) (by rw [(lo.kd.numb i hi).length]; have := to.len i hi; omega) fun k2 => ?_⟩
  refine ⟨(K.pv i).length, k2, _, _, rfl, rfl, rfl, by rw [(lo.kd.numb i hi).length]; exact hp, fun r ρ hnm => ?_⟩
  walk_at "py"
  refine ⟨trivial, Sw.listT (by rw [(lo.kd.numb i hi).length]; exact hp) hnm fun ln => ?_⟩
  refine Sw.neLists (ss := (t.kv i).map (·.1)) (fun h g O => isList_of (O.get (.tail _ (.tail _ (List.mem_append_right _ (.head _)))))) (fun h g O => isList_of (O.get (.tail _ (.head _)))) hsd (by rw [Th.kv_fst, ← (lo.kd.numb i hi).length]; exact names_SA (by rw [(lo.kd.numb i hi).length]; exact hp)) (Nat.lt_of_le_of_lt (Nat.le_trans (Nat.le_add_right _ _) hr.units) (by decide)) ?_
  refine Sw.truthy_bool ?_
  walk_at "off"
  refine Sw.execs_nil ?_
  refine ls_for2 (σ := .o ln (listP (lwNames.take (K.pv i).length)) :: (ρ ++ (.o ld (listP vd) :: .o acc (listP ((t.pt i).map t.pv)) :: .o ct (cellP (some (.ref (t.ad i)))) :: σ))) E GE (lo.mono fun c hc => .tail _ (List.mem_append_right _ (.tail _ (.tail _ (.tail _ hc))))) to hi hsz hh hr (.tail _ (List.mem_append_right _ (.tail _ (.head _)))) fun v part => ?_
  exact ⟨_, by walk_at "subl", y (some (.ref acc)) v part (.o ln (listP (lwNames.take (K.pv i).length)) :: (ρ ++ [.o ld (listP vd), .o acc (listP ((t.pt i).map t.pv))]))⟩
end
end

-- LF
section
local macro_rules | `(tactic| walk_at "gl") => `(tactic| with_reducible first | exact g_names _ | exact g_words _)
local macro_rules | `(tactic| walk_at "bl") => `(tactic| with_reducible first | exact b_zip | exact b_len | exact b_list | exact b_isinstance | exact b_bool)
local macro_rules | `(tactic| walk_at "subl") => `(tactic| (refine Subp.of_cnt fun _ => ?_; simp only [cnt_append, cnt_cons, cnt_nil, lsVs]; omega))
section
variable {B : Bx} {A : Around} {Ψ : Value → SH → Prop} {σ τ S R T : SH} {env : Env} {t : Th} {K : Kd}
theorem ls_outer {tl ct : Addr} {Q : Result → SH → Prop} (E : EnvOk env lsKs lsFs) (GE : GlbOk env lsGs) (hs : env.scope = fnScope lsSt) (CK : CellOk env lsFs) (CE : env.cells = lsFs.zip [ct]) (lo : LsOk B tl K t σ) (to : t.Ok) (hsz : t.sz ≤ 3) (hh : A.handled = none) (hr : Roomy A 1)
    {z TI TO i1 i2 : Addr} (hQ : ∀ kind parts held v part uc ρ, Q (.ok .next) (.o env.locals (frameP lsKs (lsVs tl K.kl kind parts held v part)) :: .o ct (cellP uc) :: (ρ ++ σ))) :
    ∀ (n k : Nat), k + n = t.sz → ∀ (kind parts held v part uc : Option Value) (a b : Value) (ρ : SH),
      Sc B A (.forLoop (forTgt lsFor) (.ref z) (forBdy lsFor) [] env) Q (.o env.locals (frameP lsKs (lsVs tl K.kl kind parts held v part)) :: .o ct (cellP uc) :: ((⟨z, TI, TO, i1, i2, tl, K.kl⟩ : Zp).cells .none k k a b ++ (ρ ++ σ))) := by
  intro n
  induction n with
  | zero =>
    intro k hk kind parts held v part uc a b ρ
    refine Sc.for1 ?_
    refine Sw.subp (τ := (⟨z, TI, TO, i1, i2, tl, K.kl⟩ : Zp).cells .none k k a b ++ .o env.locals (frameP lsKs (lsVs tl K.kl kind parts held v part)) :: .o ct (cellP uc) :: (ρ ++ σ)) ?_ (by walk_at "subp")
    refine Sw.zip_end hh (.tail _ (.tail _ (List.mem_append_right _ lo.tl))) (.tail _ (.tail _ (List.mem_append_right _ lo.kd.list))) (.inl (by simp; omega)) ?_
    exact Sw.execs_nil (hQ kind parts held v part uc ρ)
  | succ n ih =>
    intro k hk kind parts held v part uc a b ρ
    have hi : k < t.sz := by omega
    refine Sc.for1 ?_
    refine Sw.subp (τ := (⟨z, TI, TO, i1, i2, tl, K.kl⟩ : Zp).cells .none k k a b ++ .o env.locals (frameP lsKs (lsVs tl K.kl kind parts held v part)) :: .o ct (cellP uc) :: (ρ ++ σ)) ?_ (by walk_at "subp")
    refine Sw.next_zip (x := .ref (t.ad k)) (y := .ref (K.tu k)) (.tail _ (.tail _ (List.mem_append_right _ lo.tl))) (.tail _ (.tail _ (List.mem_append_right _ lo.kd.list))) (by simp [hi]) (by simp [hi]) fun tz => ?_
    refine Sw.go_zip ?_
    refine Sw.subp (τ := .o env.locals (frameP lsKs (lsVs tl K.kl kind parts held v part)) :: .o ct (cellP uc) :: .o tz (tupP [.ref (t.ad k), .ref (K.tu k)]) :: ((⟨z, TI, TO, i1, i2, tl, K.kl⟩ : Zp).cells .none (k + 1) (k + 1) (.ref (t.ad k)) (.ref (K.tu k)) ++ (ρ ++ σ))) ?_ (by walk_at "subp")
    refine Sw.assign_pair hh (by walk_at "mem") ?_
    refine Sw.assign_Name (Sw.stC E CK CE .head (.tail .head) ?_)
    refine Sw.assign_pair hh (.tail _ (.tail _ (.tail _ (List.mem_append_right _ (List.mem_append_right _ (lo.kd.pair k hi)))))) ?_
    refine Sw.assign_Name (Sw.st E (NPut.tail (.tail .head)) ?_)
    refine Sw.assign_Name (Sw.st E (NPut.tail (.tail (.tail .head))) ?_)
    have lo' : LsOk B tl K t (.o tz (tupP [.ref (t.ad k), .ref (K.tu k)]) :: ((⟨z, TI, TO, i1, i2, tl, K.kl⟩ : Zp).cells .none (k + 1) (k + 1) (.ref (t.ad k)) (.ref (K.tu k)) ++ (ρ ++ σ))) := lo.mono fun c hc => .tail _ (List.mem_append_right _ (List.mem_append_right _ hc))
    have go : ∀ kind parts held v part ρ2, Sc B A (.forLoop (forTgt lsFor) (.ref z) (forBdy lsFor) [] env) Q (.o env.locals (frameP lsKs (lsVs tl K.kl kind parts held v part)) :: .o ct (cellP (some (.ref (t.ad k)))) :: (ρ2 ++ (Cl.o tz (tupP [.ref (t.ad k), .ref (K.tu k)]) :: ((⟨z, TI, TO, i1, i2, tl, K.kl⟩ : Zp).cells .none (k + 1) (k + 1) (.ref (t.ad k)) (.ref (K.tu k)) ++ (ρ ++ σ))))) := by
      intro kind parts held v part ρ2
      exact (ih (k + 1) (by omega) kind parts held v part (some (.ref (t.ad k))) (.ref (t.ad k)) (.ref (K.tu k)) (.o tz (tupP [.ref (t.ad k), .ref (K.tu k)]) :: (ρ2 ++ ρ))).sub' (by walk_at "subp")
    cases hd : t.isD k with
    | false => exact ls_turn0 E GE CE lo' to hi hsz hh hr hd fun held v part => go _ _ held v part []
    | true => exact ls_turn1 E GE hs CE lo' to hi hsz hh hr hd (to.len k hi) fun held v part ρ2 => go _ _ held v part ρ2
theorem ls_body {tl ct : Addr} (E : EnvOk env lsKs lsFs) (GE : GlbOk env lsGs) (hs : env.scope = fnScope lsSt) (CK : CellOk env lsFs) (CE : env.cells = lsFs.zip [ct]) (lo : LsOk B tl K t σ) (to : t.Ok) (hsz : t.sz ≤ 3) (hh : A.handled = none) (hr : Roomy A 1) :
    Sw B A (execs (fnBody lsSt) env) (fun f τ => retV f = .bool true ∧ σ.Sublist τ) NoE (.o env.locals (frameP lsKs (lsVs tl K.kl none none none none none)) :: .o ct (cellP none) :: σ) := by
  refine Sw.execs_cons (Sw.s_For ?_)
  refine Sw.e_Call_Name ?_
  walk_at "py"
  refine ⟨trivial, ?_⟩
  refine Sw.call_zip (.tail _ (.tail _ lo.tl)) (.tail _ (.tail _ lo.kd.list)) fun z TI TO i1 i2 => ?_
  refine Sw.iter_zip (Z := ⟨z, TI, TO, i1, i2, tl, K.kl⟩) ?_
  refine Sc.sub' (ls_outer (σ := σ) E GE hs CK CE lo to hsz hh hr (z := z) (TI := TI) (TO := TO) (i1 := i1) (i2 := i2) (fun kind parts held v part uc ρ => ?_) t.sz 0 (by omega) none none none none none none .none .none []) (by walk_at "subp")
  walk_at "py"
  exact ⟨rfl, .cons _ (.cons _ (List.sublist_append_right ρ σ))⟩
theorem Sw.callCV {f : Value} {as : List Value} {Φ : Value → SH → Prop} (x : Sc B A (.call f ⟨as, []⟩) (fun r τ => ∃ v, r = .ok (.ret v) ∧ Φ v τ) σ) : Sw B A (PySem.call f as) Φ Ψ σ := fun h g d k O => wpAny_call (codeAny_mono (x h g d k O) fun r s q => by
  obtain ⟨τ, O, e, v, rfl, q⟩ := q
  exact ⟨τ, O, e, q⟩)
theorem ls_here : FnHere B 206 (fdK B.w 206) σ := fn_here rfl rfl rfl rfl rfl rfl
theorem same_call {tl : Addr} {Φ : Value → SH → Prop} (lo : LsOk B tl K t σ) (to : t.Ok) (hsz : t.sz ≤ 3) (hh : A.handled = none) (hr : Roomy A 2) (y : Φ (.bool true) σ) : Sw B A (PySem.call (.ref 206) [.ref tl, .ref K.kl]) Φ Ψ σ := by
  refine Sw.callCV (Sw.callC (ks := lsKs) ls_here (ls_ok B.w) (hr.le (by omega)) (ls_bind B.w (.ref tl) (.ref K.kl)) fun L cs hcs => ?_)
  rw [ls_s, ls_fs] at hcs
  match cs, hcs with
  | [ct], _ =>
  have E : EnvOk (envC (fdK B.w 206) L 206 [ct]) lsKs lsFs := EnvOk.of (ls_s B.w) ls_b
  have GE := ls_g B.w L [ct]
  have CE : (envC (fdK B.w 206) L 206 [ct]).cells = lsFs.zip [ct] := by
    show (cellN (fdK B.w 206).scope.names).reverse.zip [ct] = _
    rw [ls_s, ls_fs]
  have CK : CellOk (envC (fdK B.w 206) L 206 [ct]) lsFs := by
    intro x hx
    show (fdK B.w 206).scope.names.lookup x = _
    rw [ls_s]
    rcases List.mem_singleton.mp hx with rfl
    decide +kernel
  have hs : (envC (fdK B.w 206) L 206 [ct]).scope = fnScope lsSt := ls_s B.w
  have hr' : Roomy (A.deeper (envC (fdK B.w 206) L 206 [ct])) 1 := hr.deeper
  have hh' : (A.deeper (envC (fdK B.w 206) L 206 [ct])).handled = none := hh
  generalize hv : envC (fdK B.w 206) L 206 [ct] = env at E GE CE CK hs hr' hh' ⊢
  have hl : L = env.locals := by rw [← hv]
  subst hl
  refine Sw.bindsCons (Sw.st E .head (Sw.bindsCons (Sw.st E (.tail .head) (Sw.bindsNil ?_))))
  exact (ls_body E GE hs CK CE lo to hsz hh' hr').mono (fun f τ q => ⟨σ, q.2, _, by rw [q.1], y⟩) fun _ _ q => q
end
end

-- N0
section
@[reducible] def lawVs (script rows draws j parts part v turn roots left r runs told ended given order steps walks good text ring thing : Option Value) : List (Option Value) :=
  [script, rows, draws, j, parts, part, v, turn, roots, left, r, runs, told, ended, given, order, steps, walks, good, text, ring, thing]
@[reducible] def lawGs : List Str := ["range", "enumerate", "_law_words", "_law_names", "sum", "JSONEncoder", "next", "StopIteration", "ValueError", "_law_same", "_law_walk"]
theorem law_g (w : World) (L : Addr) (cs : List Addr) : GlbOk (envC (fdK w 218) L 218 cs) lawGs := glb_of (law_s w) (by kernel_rfl) (by kernel_rfl) (by decide +kernel)
theorem law_ck (w : World) (L : Addr) (cs : List Addr) : CellOk (envC (fdK w 218) L 218 cs) lawFs := by
  have h : lawFs.all (fun x => decide ((fnScope lawSt).names.lookup x = some .cell)) = true := by decide +kernel
  intro x hx
  show (fdK w 218).scope.names.lookup x = _
  rw [law_s]
  exact of_decide_eq_true (List.all_eq_true.mp h x hx)
theorem b_range : bootBuiltins (Str.ofString "range") = some (.type "range") := by decide +kernel
theorem b_sum : bootBuiltins (Str.ofString "sum") = some (.builtin "sum") := by decide +kernel
theorem b_next : bootBuiltins (Str.ofString "next") = some (.builtin "next") := by decide +kernel
theorem b_Stop : bootBuiltins (Str.ofString "StopIteration") = some (.type "StopIteration") := by decide +kernel
theorem g_same (w : World) : nsIn (KF w) mainGlobals (Str.ofString "_law_same") = some (some (.ref 206)) := by kernel_rfl
theorem g_part (w : World) : nsIn (KF w) mainGlobals (Str.ofString "_law_part") = some (some (.ref 213)) := by kernel_rfl
theorem g_enc (w : World) : nsIn (KF w) mainGlobals (Str.ofString "JSONEncoder") = some (some (.ref 125)) := by kernel_rfl
section
variable {B : Bx} {A : Around} {Ψ : Value → SH → Prop} {σ τ S R T : SH} {env : Env}
theorem Sw.iter_li {it l : Addr} {i : Nat} {Φ : Value → SH → Prop} (m : Cl.o it (liP l i) ∈ σ) (x : Φ (.ref it) σ) : Sw B A (pyIter (.ref it)) Φ Ψ σ := fun h g d k O => wpAny_pyIter_listiter (li_of (O.get m)) (.mk O x)
theorem Sw.iter_ri {it : Addr} {x left : Int} {Φ : Value → SH → Prop} (m : Cl.o it (riP x left) ∈ σ) (y : Φ (.ref it) σ) : Sw B A (pyIter (.ref it)) Φ Ψ σ := fun h g d k O => by
  obtain ⟨o, ho, rfl⟩ := O.get m
  exact wpAny_pyIter_rangeiter ho (.mk O y)
-- a comprehension's loop over a list
theorem Sc.compL {cenv : Env} {elt iter : Expr} {x : Str} {px : Pos} {scope : Scope} {pos : Pos} {fs : List Str} {it acc l : Addr} {vs : List Value} {Q : Result → SH → Prop} (E : EnvOk cenv [x] fs) (hh : A.handled = none) (hl : vs.length < 1000)
    (J : Nat → List Value → SH → Prop) (ml : ∀ i ws ρ, J i ws ρ → Cl.o l (listP vs) ∈ ρ ∧ ws.length = i)
    (turn : ∀ i v ws ρ, vs[i]? = some v → J i ws ρ → Sw B A (eval elt cenv) (fun y τ => ∃ ρ', Subp (.o cenv.locals (frameP [x] [some v]) :: .o it (liP l (i + 1)) :: .o acc (listP ws) :: ρ') τ ∧ J (i + 1) (ws ++ [y]) ρ') NoE (.o cenv.locals (frameP [x] [some v]) :: .o it (liP l (i + 1)) :: .o acc (listP ws) :: ρ))
    (hQ : ∀ ws ρ u, J vs.length ws ρ → Q (.ok .next) (.o cenv.locals (frameP [x] [u]) :: .o acc (listP ws) :: ρ)) :
    ∀ (n i : Nat) (ws : List Value) (ρ : SH) (u : Option Value), i + n = vs.length → J i ws ρ → Sc B A (.compLoop (lc elt (.Name x px) iter scope pos) 0 (.ref it) (.ref acc) cenv) Q (.o cenv.locals (frameP [x] [u]) :: .o it (liP l i) :: .o acc (listP ws) :: ρ) := by
  intro n
  induction n with
  | zero =>
    intro i ws ρ u hi hJ
    have e : i = vs.length := by omega
    refine Sc.comp1 ?_
    refine Sw.next_list_end (l := l) (vs := vs) (i := i) hh (by walk_at "del") (.tail _ (.tail _ (.tail _ (ml i ws ρ hJ).1))) (by rw [e]; simp) ?_
    subst e
    exact hQ ws ρ u hJ
  | succ n ih =>
    intro i ws ρ u hi hJ
    have hlt : i < vs.length := by omega
    refine Sc.comp1 ?_
    refine Sw.next_list (l := l) (vs := vs) (i := i) (v := vs[i]) (by walk_at "upd") (.tail _ (.tail _ (.tail _ (ml i ws ρ hJ).1))) (List.getElem?_eq_getElem hlt) ?_
    refine Sw.pure ?_
    refine Sw.assign_Name (Sw.st E .head ?_)
    refine (turn i vs[i] ws ρ (List.getElem?_eq_getElem hlt) hJ).mono (fun y τ q => ?_) fun _ _ q => q
    obtain ⟨ρ', hs, hJ'⟩ := q
    refine Sw.subp ?_ hs
    refine Sw.appendL (vs := ws) (.tail (.tail .head)) (by rw [(ml i ws ρ hJ).2]; omega) ?_
    exact ih (i + 1) (ws ++ [y]) ρ' (some vs[i]) (by omega) hJ'
theorem Sc.compR {cenv : Env} {elt iter : Expr} {x : Str} {px : Pos} {scope : Scope} {pos : Pos} {fs : List Str} {it acc : Addr} {m : Nat} {Q : Result → SH → Prop} (E : EnvOk cenv [x] fs) (hh : A.handled = none) (hl : m < 1000)
    (J : Nat → List Value → SH → Prop) (ml : ∀ i ws ρ, J i ws ρ → ws.length = i)
    (turn : ∀ i k ws ρ, i < m → J i ws ρ → Sw B A (eval elt cenv) (fun y τ => ∃ ρ', Subp (.o cenv.locals (frameP [x] [some (.int (i : Int) k)]) :: .o it (riP ((i : Int) + 1) ((m : Int) - (i : Int) - 1)) :: .o acc (listP ws) :: ρ') τ ∧ J (i + 1) (ws ++ [y]) ρ') NoE (.o cenv.locals (frameP [x] [some (.int (i : Int) k)]) :: .o it (riP ((i : Int) + 1) ((m : Int) - (i : Int) - 1)) :: .o acc (listP ws) :: ρ))
    (hQ : ∀ ws ρ u, J m ws ρ → Q (.ok .next) (.o cenv.locals (frameP [x] [u]) :: .o acc (listP ws) :: ρ)) :
    ∀ (n i : Nat) (ws : List Value) (ρ : SH) (u : Option Value), i + n = m → J i ws ρ → Sc B A (.compLoop (lc elt (.Name x px) iter scope pos) 0 (.ref it) (.ref acc) cenv) Q (.o cenv.locals (frameP [x] [u]) :: .o it (riP (i : Int) ((m : Int) - (i : Int))) :: .o acc (listP ws) :: ρ) := by
  intro n
  induction n with
  | zero =>
    intro i ws ρ u hi hJ
    have e : i = m := by omega
    subst e
    refine Sc.comp1 ?_
    refine Sw.next_range_end hh (.tail .head) (by omega) ?_
    exact hQ ws ρ u hJ
  | succ n ih =>
    intro i ws ρ u hi hJ
    have hlt : i < m := by omega
    refine Sc.comp1 ?_
    refine Sw.next_range (.tail .head) (by omega) fun k => ?_
    refine Sw.pure ?_
    refine Sw.assign_Name (Sw.st E .head ?_)
    refine (turn i k ws ρ hlt hJ).mono (fun y τ q => ?_) fun _ _ q => q
    obtain ⟨ρ', hs, hJ'⟩ := q
    refine Sw.subp ?_ hs
    refine Sw.appendL (vs := ws) (.tail (.tail .head)) (by rw [ml i ws ρ hJ]; omega) ?_
    have z := ih (i + 1) (ws ++ [y]) ρ' (some (.int (i : Int) k)) (by omega) hJ'
    have e2 : (m : Int) - ((i + 1 : Nat) : Int) = (m : Int) - (i : Int) - 1 := by omega
    rw [e2] at z
    exact z
end
end

-- N1
section
local macro_rules | `(tactic| walk_at "gl") => `(tactic| with_reducible first | exact g_names _ | exact g_words _ | exact g_walk _ | exact g_same _ | exact g_part _)
local macro_rules | `(tactic| walk_at "bl") => `(tactic| with_reducible first | exact b_range | exact b_sum | exact b_next | exact b_enum)
local macro_rules | `(tactic| walk_at "subc") => `(tactic| (refine Subp.of_cnt fun _ => ?_; simp only [compEnvC, cstate, cnt_append, cnt_cons, cnt_nil, List.map_nil, List.map_cons, lawVs]; omega))
def lawAt (i : Nat) : Stmt := ((fnBody lawSt)[i]?).getD (.Pass default)
def lcE (i : Nat) : Expr := asgVal (lawAt i)
def rowsI (ns : List Int) : List Int := (ns.take 18).map fun x => x.fmod 5040
theorem IntsAre.take' {vs : List Value} {ns : List Int} (h : PyProof.Rows.IntsAre vs ns) (k : Nat) : PyProof.Rows.IntsAre (vs.take k) (ns.take k) := PyProof.Rows.IntsAre.take h k
theorem rows_comp {env : Env} (hs : env.scope = fnScope lawSt) : CompOk env (lcScope (lcE 0)) [] ["x"] [] :=
  CompOk.of hs (by unfold closureFor; rfl) (by decide +kernel)
section
variable {B : Bx} {A : Around} {Ψ : Value → SH → Prop} {σ τ S R T : SH} {env : Env}
theorem law_a0 {l : Addr} {vals : List Value} {ns : List Int} {c1 c2 c3 c4 c5 c6 c7 : Addr} {Φ : Flow → SH → Prop} (E : EnvOk env lawKs lawFs) (hs : env.scope = fnScope lawSt) (hh : A.handled = none)
    (hL : B.G.IsList l vals.toArray) (hI : IntsAre vals ns) (hn : ns.length ≤ 63)
    (y : ∀ r rv, IntsAre rv (rowsI ns) → Sw B A (execs ((fnBody lawSt).drop 1) env) Φ NoE (.o env.locals (frameP lawKs (lawVs (some (.ref l)) (some (.ref r)) none none none none none none none none none none none none none none none none none none none none)) :: .o r (listP rv) :: σ)) :
    Sw B A (execs (fnBody lawSt) env) Φ NoE (.o env.locals (frameP lawKs (lawVs (some (.ref l)) none none none none none none none none none none none none none none none none none none none none none)) :: σ) := by
  have hvl : vals.length = ns.length := hI.length
  refine Sw.execs_cons (Sw.s_Assign_Comp (rows_comp hs) E ?_)
  refine Sw.sliceTo ?_
  walk_at "py"
  refine ⟨l, vals, 18, _, _, _, rfl, rfl, rfl, by decide, by decide, by omega, fun h g O => ?_, fun sl => ?_⟩
  · obtain ⟨o, ho, r⟩ := hL
    exact ⟨o, O.keep _ _ ho, r⟩
  have e18 : (18 : Int).toNat = 18 := by decide
  rw [e18]
  refine Sw.iter_list (vs := vals.take 18) (.tail _ (.head _)) fun it => ?_
  intro acc C
  refine ⟨Sw.iter_li (l := sl) (i := 0) (by walk_at "mem") ⟨rfl, rfl⟩, ?_⟩
  have EC := (rows_comp hs).env C
  refine Sc.sub' (Sc.compL (cenv := compEnvC (lcScope (lcE 0)) [] C env) (l := sl) (vs := vals.take 18) EC hh (by simp; omega)
    (fun i ws ρ => ws.length = i ∧ IntsAre ws ((rowsI ns).take i) ∧ ρ = .o env.locals (frameP lawKs (lawVs (some (.ref l)) none none none none none none none none none none none none none none none none none none none none none)) :: .o sl (listP (vals.take 18)) :: σ)
    (fun i ws ρ h => by obtain ⟨h2, _, rfl⟩ := h; exact ⟨by walk_at "mem", h2⟩) (fun i v ws ρ hv hJ => ?_) (fun ws ρ u hJ => ?_) (vals.take 18).length 0 [] _ none (by omega) ⟨rfl, .nil, rfl⟩) (by walk_at "subc")
  · obtain ⟨h2, h3, rfl⟩ := hJ
    have hi : i < (vals.take 18).length := (List.getElem?_eq_some_iff.mp hv).1
    have hi2 : i < (ns.take 18).length := by simp at hi ⊢; omega
    obtain ⟨k, hk⟩ := (IntsAre.take' hI 18).get (i := i) (n := (ns.take 18)[i]) (List.getElem?_eq_getElem hi2)
    rw [hk] at hv
    cases hv
    walk_at "py"
    refine Sw.modI (by decide) fun k2 => ?_
    refine ⟨_, .refl _, by simp [h2], ?_, rfl⟩
    have e : (rowsI ns).take (i + 1) = (rowsI ns).take i ++ [((ns.take 18)[i]).fmod 5040] := by
      unfold rowsI
      rw [List.take_add_one, List.getElem?_map, List.getElem?_eq_getElem hi2]; rfl
    rw [e]
    exact h3.append (.cons _ _ .nil)
  · obtain ⟨h2, h3, rfl⟩ := hJ
    have hl : (rowsI ns).length = (vals.take 18).length := by unfold rowsI; simp [hvl]
    rw [← hl, List.take_length] at h3
    exact ⟨rfl, [u], lawVs (some (.ref l)) none none none none none none none none none none none none none none none none none none none none none, _, .o acc (listP ws) :: σ, by walk_at "subc", .tail .head, y acc ws h3⟩
end
end

-- N2
section
local macro_rules | `(tactic| walk_at "gl") => `(tactic| with_reducible first | exact g_names _ | exact g_words _ | exact g_walk _ | exact g_same _ | exact g_part _)
local macro_rules | `(tactic| walk_at "bl") => `(tactic| with_reducible first | exact b_range | exact b_sum | exact b_next | exact b_enum)
local macro_rules | `(tactic| walk_at "subc") => `(tactic| (refine Subp.of_cnt fun _ => ?_; simp only [compEnvC, cstate, cnt_append, cnt_cons, cnt_nil, List.map_nil, List.map_cons, lawVs]; omega))
@[reducible] def lawCs (c1 c2 c3 c4 c5 c6 c7 : Addr) (writer indent i kinds things size x : Option Value) (σ : SH) : SH :=
  .o c1 (cellP writer) :: .o c2 (cellP indent) :: .o c3 (cellP i) :: .o c4 (cellP kinds) :: .o c5 (cellP things) :: .o c6 (cellP size) :: .o c7 (cellP x) :: σ
def drI (ns : List Int) : List Int := rowsI ns ++ [0, 0, 0]
def szI (ns : List Int) : Int := 2 + ((drI ns).getD 0 0).fmod 2
section
variable {B : Bx} {A : Around} {Ψ : Value → SH → Prop} {σ τ S R T : SH} {env : Env}
theorem swapped_cells {x z : Str} {px pz tp vp : Pos} {kk kk2 : Nat} {v1 v2 : Expr} {lks lfs : List Str} (E : EnvOk env lks lfs) (CK : CellOk env lfs) (hx : x ∈ lfs) (hz : z ∈ lfs) :
    swappedStores [.Tuple [.Name x px, .Name z pz] kk tp] (.Tuple [v1, v2] kk2 vp) env = Pure.pure none := by
  have h1 : env.kindOf x = some .cell := CK x hx
  have h2 : env.kindOf z = some .cell := CK z hz
  simp [swappedStores, h1, h2]
theorem law_a1 {l r : Addr} {rv : List Value} {ns : List Int} {c1 c2 c3 c4 c5 c6 c7 : Addr} {Φ : Flow → SH → Prop} (E : EnvOk env lawKs lawFs) (CK : CellOk env lawFs) (CE : env.cells = lawFs.zip [c1, c2, c3, c4, c5, c6, c7]) (hh : A.handled = none)
    (hI : IntsAre rv (rowsI ns))
    (y : ∀ d dv tl kl k, IntsAre dv (drI ns) → Sw B A (execs ((fnBody lawSt).drop 4) env) Φ NoE (.o env.locals (frameP lawKs (lawVs (some (.ref l)) (some (.ref r)) (some (.ref d)) none none none none none none none none none none none none none none none none none none none)) ::
      lawCs c1 c2 c3 c4 c5 c6 c7 none none none (some (.ref kl)) (some (.ref tl)) (some (.int (szI ns) k)) none (.o r (listP rv) :: .o d (listP dv) :: .o tl (listP []) :: .o kl (listP []) :: σ))) :
    Sw B A (execs ((fnBody lawSt).drop 1) env) Φ NoE (.o env.locals (frameP lawKs (lawVs (some (.ref l)) (some (.ref r)) none none none none none none none none none none none none none none none none none none none none)) ::
      lawCs c1 c2 c3 c4 c5 c6 c7 none none none none none none none (.o r (listP rv) :: σ)) := by
  have hrl : rv.length ≤ 18 := by rw [hI.length]; unfold rowsI; simp; omega
  refine Sw.execs_cons (Sw.s_Assign_Name ?_)
  walk_at "py"
  refine Sw.e_List (Args.cons (Sw.e_Const_int fun k1 => Args.cons (Sw.e_Const_int fun k2 => Args.cons (Sw.e_Const_int fun k3 => Args.nil ?_))))
  refine ⟨by show (3 : Nat) < 100000; decide, _, _, rfl, fun z => ?_⟩
  refine Sw.addL (vs := rv) (by walk_at "mem") (.tail _ (.head _)) (by simp; omega) fun d => ?_
  have hD : IntsAre (rv ++ [.int 0 k1, .int 0 k2, .int 0 k3]) (drI ns) := hI.append (.cons _ _ (.cons _ _ (.cons _ _ .nil)))
  have h0 : (drI ns)[0]? = some ((drI ns).getD 0 0) := by
    have : 0 < (drI ns).length := by unfold drI; simp
    rw [List.getD_eq_getElem?_getD, List.getElem?_eq_getElem this]; rfl
  obtain ⟨k0, hk0⟩ := Mine.IntsAre.get hD h0
  generalize rv ++ [.int 0 k1, .int 0 k2, .int 0 k3] = dv at hD hk0 ⊢
  refine Sw.st E (NPut.tail (.tail .head)) ?_
  refine Sw.execs_cons (Sw.s_Assign_Name ?_)
  walk_at "py"
  refine atL (vs := dv) (by walk_at "mem") (by decide) (by decide) hk0 ?_
  walk_at "py"
  refine Sw.modI (by decide) fun k4 => ?_
  refine Sw.addI fun k5 => ?_
  refine Sw.stC E CK CE (.tail (.tail (.tail (.tail (.tail .head))))) (.tail (.tail (.tail (.tail (.tail (.tail (.tail (.tail .head)))))))) ?_
  refine Sw.execs_cons (Sw.s_Assign_Tuple ?_ (by with_unfolding_all rfl) (swapped_cells E CK (by decide) (by decide)))
  refine Sw.e_Tuple (Args.cons (Sw.e_List (Args.nil ⟨by decide, _, _, rfl, fun tl => Args.cons (Sw.e_List (Args.nil ⟨by decide, _, _, rfl, fun kl => Args.nil ⟨by show (2 : Nat) < 100000; decide, _, _, rfl, fun tp => ?_⟩⟩))⟩)))
  refine Sw.assign_pair hh (.tail _ (.head _)) ?_
  refine Sw.assign_Name (Sw.stC E CK CE (.tail (.tail (.tail (.tail .head)))) (u := none) (by walk_at "upd") ?_)
  refine Sw.assign_Name (Sw.stC E CK CE (.tail (.tail (.tail .head))) (u := none) (by walk_at "upd") ?_)
  unfold szI at y
  exact Sw.subp (y d dv tl kl k5 hD) (by walk_at "subc")
end
end

-- N3
section
local macro_rules | `(tactic| walk_at "gl") => `(tactic| with_reducible first | exact g_names _ | exact g_words _ | exact g_walk _ | exact g_same _ | exact g_part _)
local macro_rules | `(tactic| walk_at "bl") => `(tactic| with_reducible first | exact b_range | exact b_sum | exact b_next | exact b_enum)
local macro_rules | `(tactic| walk_at "subc") => `(tactic| (refine Subp.of_cnt fun _ => ?_; simp only [compEnvC, cstate, cnt_append, cnt_cons, cnt_nil, List.map_nil, List.map_cons, lawVs]; omega))
def law4 : Stmt := lawAt 4
def stAt (s : Stmt) (i : Nat) : Stmt := ((forBdy s)[i]?).getD (.Pass default)
def lcP : Expr := asgVal (stAt law4 1)
@[reducible] def pcFs : List Str := ["x", "size", "i"]
theorem parts_comp {env : Env} {c1 c2 c3 c4 c5 c6 c7 : Addr} (hs : env.scope = fnScope lawSt) (CE : env.cells = lawFs.zip [c1, c2, c3, c4, c5, c6, c7]) : CompOk env (lcScope lcP) (pcFs.zip [c7, c6, c3]) ["j"] pcFs :=
  CompOk.of hs (by unfold closureFor cellOf; rw [CE]; rfl) (by decide +kernel)
theorem comp_glb {env : Env} {outer scope : Scope} {cl : List (Str × Addr)} {gs gs' : List Str} {C : Addr} (hs : env.scope = outer) (GE : GlbOk env gs) (h : (decide ((relS scope outer).kind = .function) && gs'.all fun x => decide ((relS scope outer).names.lookup x = some .globalImplicit) && !(x == ("__debug__" : Str))) = true) : GlbOk (compEnvC scope cl C env) gs' :=
  glb_of (env := compEnvC scope cl C env) (relabel_eq hs) GE.glob GE.bi h
def parts0 (x i sz : Int) : List Int := (List.range (1 + (x.fdiv 5).fmod 2).toNat).map fun (j : Nat) => partI ((x.fdiv 6 + i + (j : Int) * (x.fdiv 4)).fmod (2 * sz + 6)) sz
theorem pylong5 {a : Int} {b : Int} (h : b.natAbs < 1000) : Builtin.divisionGoesByPylong a b = false := PyProof.noPylong_small (by omega)
section
variable {B : Bx} {A : Around} {Ψ : Value → SH → Prop} {σ τ S R T : SH} {env : Env}
@[reducible] def law4V (l r d : Addr) (j parts part v : Option Value) : List (Option Value) := lawVs (some (.ref l)) (some (.ref r)) (some (.ref d)) j parts part v none none none none none none none none none none none none none none none
theorem law_b1 {l r d : Addr} {i : Nat} {x sz : Int} {ki ks kx : Tok} {parts : Option Value} {kl tl : Addr} {c1 c2 c3 c4 c5 c6 c7 : Addr} {Φ : Flow → SH → Prop} (E : EnvOk env lawKs lawFs) (GE : GlbOk env lawGs) (hs : env.scope = fnScope lawSt) (CE : env.cells = lawFs.zip [c1, c2, c3, c4, c5, c6, c7]) (hh : A.handled = none) (hr : Roomy A 2)
    (hx0 : 0 ≤ x) (hx1 : x < 5040) (hsz : sz = 2 ∨ sz = 3)
    (y : ∀ pl pv, IntsAre pv (parts0 x i sz) → Sw B A (execs ((forBdy law4).drop 2) env) Φ NoE (.o env.locals (frameP lawKs (law4V l r d none (some (.ref pl)) none none)) ::
      lawCs c1 c2 c3 c4 c5 c6 c7 none none (some (.int i ki)) (some (.ref kl)) (some (.ref tl)) (some (.int sz ks)) (some (.int x kx)) (.o pl (listP pv) :: σ))) :
    Sw B A (execs ((forBdy law4).drop 1) env) Φ NoE (.o env.locals (frameP lawKs (law4V l r d none parts none none)) ::
      lawCs c1 c2 c3 c4 c5 c6 c7 none none (some (.int i ki)) (some (.ref kl)) (some (.ref tl)) (some (.int sz ks)) (some (.int x kx)) σ) := by
  refine Sw.execs_cons (Sw.s_Assign_Comp (parts_comp hs CE) E ?_)
  refine Sw.e_Call_Name ?_
  walk_at "py"
  refine Sw.divI (by decide) (pylong5 (by decide)) fun k1 => ?_
  walk_at "py"
  refine Sw.modI (by decide) fun k2 => ?_
  refine Sw.addI fun k3 => ?_
  refine ⟨trivial, Sw.call_range fun rg => ?_⟩
  have hm : ∃ m : Nat, (1 + (x.fdiv 5).fmod 2) = (m : Int) ∧ m < 1000 ∧ (1 + (x.fdiv 5).fmod 2).toNat = m := by
    have h1 := Int.fmod_nonneg_of_pos (x.fdiv 5) (b := 2) (by decide)
    have h2 := Int.fmod_lt_of_pos (x.fdiv 5) (b := 2) (by decide)
    exact ⟨(1 + (x.fdiv 5).fmod 2).toNat, by omega, by omega, rfl⟩
  obtain ⟨m, hm1, hm2, hm3⟩ := hm
  rw [hm1]
  refine Sw.iter_range (n := (m : Int)) (by omega) (by omega) (.tail _ (.head _)) fun it => ?_
  intro acc C
  refine ⟨Sw.iter_ri (x := 0) (left := (m : Int)) (by walk_at "mem") ⟨rfl, rfl⟩, ?_⟩
  have EC := (parts_comp hs CE).env C
  have GC : GlbOk (compEnvC (lcScope lcP) (pcFs.zip [c7, c6, c3]) C env) ["_law_part"] := comp_glb hs GE (by decide +kernel)
  have CC : (compEnvC (lcScope lcP) (pcFs.zip [c7, c6, c3]) C env).cells = pcFs.zip [c7, c6, c3] := rfl
  generalize hce : compEnvC (lcScope lcP) (pcFs.zip [c7, c6, c3]) C env = cenv at EC GC CC
  have hC : C = cenv.locals := by rw [← hce]; rfl
  refine Sc.sub' (τ := .o cenv.locals (frameP ["j"] [none]) :: .o it (riP ((0 : Nat) : Int) ((m : Int) - ((0 : Nat) : Int))) :: .o acc (listP []) :: .o env.locals (frameP lawKs (law4V l r d none parts none none)) :: lawCs c1 c2 c3 c4 c5 c6 c7 none none (some (.int i ki)) (some (.ref kl)) (some (.ref tl)) (some (.int sz ks)) (some (.int x kx)) σ) ?_ (by rw [← hC]; simp only [Int.sub_zero, Int.ofNat_zero, Int.natCast_zero]; walk_at "subc")
  show Sc B A (.compLoop (lcOf lcP) 0 (.ref it) (.ref acc) (compEnvC (lcScope lcP) (pcFs.zip [c7, c6, c3]) C env)) _ _
  rw [hce]
  refine Sc.compR (m := m) EC hh hm2 (fun i' ws ρ => ws.length = i' ∧ IntsAre ws ((parts0 x i sz).take i') ∧ ρ = .o env.locals (frameP lawKs (law4V l r d none parts none none)) :: lawCs c1 c2 c3 c4 c5 c6 c7 none none (some (.int i ki)) (some (.ref kl)) (some (.ref tl)) (some (.int sz ks)) (some (.int x kx)) σ)
    (fun i' ws ρ h => h.1) (fun j k ws ρ hj hJ => ?_) (fun ws ρ u hJ => ?_) m 0 [] _ none (by omega) ⟨rfl, .nil, rfl⟩
  · obtain ⟨h2, h3, rfl⟩ := hJ
    show Sw B A (eval (.Call (.Name _ _) _ [] _) cenv) _ _ _
    refine Sw.e_Call_Name ?_
    walk_at "py"
    refine Sw.divI (by decide) (pylong5 (by decide)) fun q1 => ?_
    walk_at "py"
    refine Sw.addI fun q2 => ?_
    walk_at "py"
    refine Sw.divI (by decide) (pylong5 (by decide)) fun q3 => ?_
    refine Sw.mulI (fun q4 => ?_) (IntMulOk.of_left (intBits_le_64 (by omega) (by omega)))
    refine Sw.addI fun q5 => ?_
    walk_at "py"
    refine Sw.mulI fun q6 => ?_
    walk_at "py"
    refine Sw.addI fun q7 => ?_
    refine Sw.modI (by omega) fun q8 => ?_
    walk_at "py"
    refine ⟨callee_K rfl rfl, part_call (hr.le (by omega)) (by omega) fun q9 => ?_⟩
    refine ⟨_, .refl _, by simp [h2], ?_, rfl⟩
    have e : (parts0 x i sz).take (j + 1) = (parts0 x i sz).take j ++ [partI ((x.fdiv 6 + (i : Int) + (j : Int) * (x.fdiv 4)).fmod (2 * sz + 6)) sz] := by
      unfold parts0
      rw [hm3, List.take_add_one, List.getElem?_map, List.getElem?_range hj]; rfl
    rw [e]
    exact h3.append (.cons _ _ .nil)
  · obtain ⟨h2, h3, rfl⟩ := hJ
    have hl : (parts0 x i sz).length = m := by unfold parts0; rw [hm3]; simp
    rw [← hl, List.take_length] at h3
    refine ⟨rfl, [u], law4V l r d none parts none none, _, lawCs c1 c2 c3 c4 c5 c6 c7 none none (some (.int i ki)) (some (.ref kl)) (some (.ref tl)) (some (.int sz ks)) (some (.int x kx)) (.o acc (listP ws) :: σ), (by rw [hC]; walk_at "subc"), .tail (.tail (.tail (.tail .head))), y acc ws h3⟩
end
end

-- N4
section
local macro_rules | `(tactic| walk_at "gl") => `(tactic| with_reducible first | exact g_names _ | exact g_words _ | exact g_walk _ | exact g_same _ | exact g_part _)
local macro_rules | `(tactic| walk_at "bl") => `(tactic| with_reducible first | exact b_range | exact b_sum | exact b_next | exact b_enum)
local macro_rules | `(tactic| walk_at "subc") => `(tactic| (refine Subp.of_cnt fun _ => ?_; simp only [compEnvC, cstate, cnt_append, cnt_cons, cnt_nil, List.map_nil, List.map_cons, lawVs]; omega))
local macro_rules | `(tactic| walk_at "off") => `(tactic| repeat (first | refine ite_neg Bool.false_ne_true ?_ | refine ite_pos (c := true = true) rfl ?_ | refine Sw.isTrue_or0 ?_ | refine Sw.isTrue_and0 ?_))
def partsF (x i sz : Int) : List Int := if sz = 2 ∧ (x.fdiv 7).fmod 3 = 1 then parts0 x i sz ++ [-1 - (x.fdiv 2).fmod 6] else parts0 x i sz
def ptOf (x i sz : Int) : List Int := if x.fmod 8 = 6 then [] else partsF x i sz
def isDOf (x : Int) : Bool := (x.fdiv 3).fmod 2 == 1
section
variable {B : Bx} {A : Around} {Ψ : Value → SH → Prop} {σ τ S R T : SH} {env : Env}
theorem Sw.s_ExprE {e : Expr} {pos : Pos} {lks lfs : List Str} {Φ : Flow → SH → Prop} (E : EnvOk env lks lfs) (y : Sw B A (eval e env) (fun v τ => Φ .next τ) Ψ σ)
    (hs : swapsWith e none pos.line env = Pure.pure false := by with_unfolding_all rfl) : Sw B A (exec (.Expr e pos) env) Φ Ψ σ := Sw.s_ExprA y (by unfold interactive; rw [E.kind]; rfl) hs
theorem parts0_len {x i sz : Int} : (parts0 x i sz).length ≤ 2 := by
  unfold parts0
  have h1 := Int.fmod_nonneg_of_pos (x.fdiv 5) (b := 2) (by decide)
  have h2 := Int.fmod_lt_of_pos (x.fdiv 5) (b := 2) (by decide)
  simp; omega
theorem law_b2 {l r d pl : Addr} {pv : List Value} {i : Nat} {x sz : Int} {ki ks kx : Tok} {kl tl : Addr} {c1 c2 c3 c4 c5 c6 c7 : Addr} {Φ : Flow → SH → Prop} (E : EnvOk env lawKs lawFs) (CE : env.cells = lawFs.zip [c1, c2, c3, c4, c5, c6, c7])
    (hp : IntsAre pv (parts0 x i sz))
    (y : ∀ pv, IntsAre pv (partsF x i sz) → Sw B A (execs ((forBdy law4).drop 3) env) Φ NoE (.o env.locals (frameP lawKs (law4V l r d none (some (.ref pl)) none none)) ::
      lawCs c1 c2 c3 c4 c5 c6 c7 none none (some (.int i ki)) (some (.ref kl)) (some (.ref tl)) (some (.int sz ks)) (some (.int x kx)) (.o pl (listP pv) :: σ))) :
    Sw B A (execs ((forBdy law4).drop 2) env) Φ NoE (.o env.locals (frameP lawKs (law4V l r d none (some (.ref pl)) none none)) ::
      lawCs c1 c2 c3 c4 c5 c6 c7 none none (some (.int i ki)) (some (.ref kl)) (some (.ref tl)) (some (.int sz ks)) (some (.int x kx)) (.o pl (listP pv) :: σ)) := by
  refine Sw.execs_cons (Sw.s_If ?_)
  walk_at "py"
  refine Sw.eqI ?_
  refine Sw.truthy_bool ?_
  unfold partsF at y
  by_cases h2 : sz = 2
  · refine ite_pos (by simpa using h2) ?_
    walk_at "py"
    refine Sw.divI (by decide) (pylong5 (by decide)) fun q1 => ?_
    walk_at "py"
    refine Sw.modI (by decide) fun q2 => ?_
    walk_at "py"
    refine Sw.eqI ?_
    refine Sw.truthy_bool ?_
    by_cases h3 : (x.fdiv 7).fmod 3 = 1
    · rw [if_pos ⟨h2, h3⟩] at y
      refine ite_pos (by simpa using h3) ?_
      walk_at "off"
      refine Sw.execs_cons (Sw.s_ExprE E ?_)
      refine Sw.e_Call_Meth F.plainAttrs_list F.slot_list_append F.type_list_append ?_
      walk_at "py"
      refine ⟨MethOn.own (P := listP pv) (by walk_at "mem") (fun o h => by obtain ⟨n, rfl⟩ := h; exact ⟨rfl, rfl⟩), ?_⟩
      walk_at "py"
      refine Sw.negI fun q3 => ?_
      walk_at "py"
      refine Sw.divI (by decide) (pylong5 (by decide)) fun q4 => ?_
      walk_at "py"
      refine Sw.modI (by decide) fun q5 => ?_
      refine Sw.subI fun q6 => ?_
      refine Sw.appendL (vs := pv) (by walk_at "upd") (by have := hp.length; have := parts0_len (x := x) (i := i) (sz := sz); omega) ?_
      refine Sw.execs_nil ?_
      exact y _ (hp.append (.cons _ _ .nil))
    · rw [if_neg (fun h => h3 h.2)] at y
      refine ite_neg (by simpa using h3) ?_
      walk_at "off"
      exact Sw.execs_nil (y pv hp)
  · rw [if_neg (fun h => h2 h.1)] at y
    refine ite_neg (by simpa using h2) ?_
    walk_at "off"
    exact Sw.execs_nil (y pv hp)
theorem law_b3 {l r d pl : Addr} {pv kvs : List Value} {i : Nat} {x sz : Int} {ki ks kx : Tok} {kl tl : Addr} {c1 c2 c3 c4 c5 c6 c7 : Addr} {Φ : Flow → SH → Prop} (E : EnvOk env lawKs lawFs) (CE : env.cells = lawFs.zip [c1, c2, c3, c4, c5, c6, c7])
    (hp : IntsAre pv (partsF x i sz)) (hk : kvs.length < 1000)
    (y : ∀ tu pl' pv' kt parts, IntsAre pv' (ptOf x i sz) → Sw B A (execs ((forBdy law4).drop 4) env) Φ NoE (.o env.locals (frameP lawKs (law4V l r d none parts none none)) ::
      lawCs c1 c2 c3 c4 c5 c6 c7 none none (some (.int i ki)) (some (.ref kl)) (some (.ref tl)) (some (.int sz ks)) (some (.int x kx)) (.o kl (listP (kvs ++ [.ref tu])) :: .o tu (tupP [.int (if isDOf x then 1 else 0) kt, .ref pl']) :: .o pl' (listP pv') :: σ))) :
    Sw B A (execs ((forBdy law4).drop 3) env) Φ NoE (.o env.locals (frameP lawKs (law4V l r d none (some (.ref pl)) none none)) ::
      lawCs c1 c2 c3 c4 c5 c6 c7 none none (some (.int i ki)) (some (.ref kl)) (some (.ref tl)) (some (.int sz ks)) (some (.int x kx)) (.o kl (listP kvs) :: .o pl (listP pv) :: σ)) := by
  have hd : (x.fdiv 3).fmod 2 = if isDOf x then 1 else 0 := by
    have h1 := Int.fmod_nonneg_of_pos (x.fdiv 3) (b := 2) (by decide)
    have h2 := Int.fmod_lt_of_pos (x.fdiv 3) (b := 2) (by decide)
    unfold isDOf
    by_cases h : (x.fdiv 3).fmod 2 = 1
    · rw [h]; rfl
    · rw [if_neg (by simpa using h)]; omega
  refine Sw.execs_cons (Sw.s_ExprE E ?_)
  refine Sw.e_Call_Meth F.plainAttrs_list F.slot_list_append F.type_list_append ?_
  walk_at "py"
  refine ⟨MethOn.own (P := listP kvs) (by walk_at "mem") (fun o h => by obtain ⟨n, rfl⟩ := h; exact ⟨rfl, rfl⟩), ?_⟩
  refine Args.cons (Sw.e_Tuple (Args.cons ?_))
  walk_at "py"
  refine Sw.divI (by decide) (pylong5 (by decide)) fun q1 => ?_
  walk_at "py"
  refine Sw.modI (by decide) fun q2 => ?_
  walk_at "py"
  refine Sw.modI (by decide) fun q3 => ?_
  walk_at "py"
  refine Sw.neI ?_
  refine Sw.truthy_bool ?_
  unfold ptOf at y
  rw [hd]
  by_cases h6 : x.fmod 8 = 6
  · rw [if_pos h6] at y
    refine ite_neg (by simpa using h6) ?_
    refine Sw.e_List (Args.nil ⟨by decide, _, _, rfl, fun pl' => ?_⟩)
    refine Args.nil ⟨by show (2 : Nat) < 100000; decide, _, _, rfl, fun tu => ?_⟩
    refine Args.nil ?_
    refine Sw.appendL (vs := kvs) (by walk_at "upd") (by omega) ?_
    refine Sw.subp (y tu pl' [] q2 (some (.ref pl)) .nil) ?_
    walk_at "subc"
  · rw [if_neg h6] at y
    refine ite_pos (by simpa using h6) ?_
    walk_at "py"
    refine ⟨by show (2 : Nat) < 100000; decide, _, _, rfl, fun tu => ?_⟩
    refine Args.nil ?_
    refine Sw.appendL (vs := kvs) (by walk_at "upd") (by omega) ?_
    refine Sw.subp (y tu pl pv q2 (some (.ref pl)) hp) ?_
    walk_at "subc"
end
end

-- N5
section
local macro_rules | `(tactic| walk_at "gl") => `(tactic| with_reducible first | exact g_names _ | exact g_words _ | exact g_walk _ | exact g_same _ | exact g_part _)
local macro_rules | `(tactic| walk_at "bl") => `(tactic| with_reducible first | exact b_range | exact b_sum | exact b_next | exact b_enum)
local macro_rules | `(tactic| walk_at "subc") => `(tactic| (refine Subp.of_cnt fun _ => ?_; simp only [compEnvC, cstate, cnt_append, cnt_cons, cnt_nil, List.map_nil, List.map_cons, lawVs]; omega))
def wd0 (w : World) (isD : Bool) : Obj → Prop := if isD then dictP w [] else listP []
structure It where
  ad : Addr
  tu : Addr
  pl : Addr
  isD : Bool
  kt : Tok
  pv : List Value
  pt : List Int
def It.cells (w : World) (x : It) : SH := [.o x.ad (wd0 w x.isD), .o x.tu (tupP [.int (if x.isD then 1 else 0) x.kt, .ref x.pl]), .o x.pl (listP x.pv)]
def itS (w : World) (xs : List It) : SH := xs.flatMap (It.cells w)
theorem itS_snoc {w : World} {xs : List It} {x : It} : itS w (xs ++ [x]) = itS w xs ++ x.cells w := by
  unfold itS; rw [List.flatMap_append, List.flatMap_cons, List.flatMap_nil, List.append_nil]
def ItOk (ns : List Int) (xs : List It) : Prop := ∀ (i : Nat) (x : It), xs[i]? = some x → x.isD = isDOf ((drI ns).getD i 0) ∧ x.pt = ptOf ((drI ns).getD i 0) i (szI ns) ∧ IntsAre x.pv x.pt
theorem ItOk.snoc {ns : List Int} {xs : List It} {x : It} (h : ItOk ns xs) (h1 : x.isD = isDOf ((drI ns).getD xs.length 0)) (h2 : x.pt = ptOf ((drI ns).getD xs.length 0) xs.length (szI ns)) (h3 : IntsAre x.pv x.pt) : ItOk ns (xs ++ [x]) := by
  intro i z hz
  rcases Nat.lt_trichotomy i xs.length with hi | hi | hi
  · rw [List.getElem?_append_left hi] at hz; exact h i z hz
  · subst hi
    rw [List.getElem?_append_right (Nat.le_refl _)] at hz
    simp at hz
    subst hz
    exact ⟨h1, h2, h3⟩
  · rw [List.getElem?_append_right (Nat.le_of_lt hi)] at hz
    have : i - xs.length ≠ 0 := by omega
    rw [List.getElem?_eq_none (by simp; omega)] at hz
    cases hz
section
variable {B : Bx} {A : Around} {Ψ : Value → SH → Prop} {σ τ S R T : SH} {env : Env}
theorem law_b4 {l r d tu pl : Addr} {pv kvs tvs : List Value} {i : Nat} {sz : Int} {ki ks kt : Tok} {xv parts : Option Value} {isD : Bool} {kl tl : Addr} {c1 c2 c3 c4 c5 c6 c7 : Addr} {Φ : Flow → SH → Prop} (E : EnvOk env lawKs lawFs) (CE : env.cells = lawFs.zip [c1, c2, c3, c4, c5, c6, c7])
    (hi : i < 1000) (hk : kvs[i]? = some (.ref tu)) (ht : tvs.length < 1000)
    (y : ∀ ad, Φ .next (.o env.locals (frameP lawKs (law4V l r d none parts none none)) ::
      lawCs c1 c2 c3 c4 c5 c6 c7 none none (some (.int i ki)) (some (.ref kl)) (some (.ref tl)) (some (.int sz ks)) xv (.o ad (wd0 B.w isD) :: .o tu (tupP [.int (if isD then 1 else 0) kt, .ref pl]) :: .o pl (listP pv) :: .o kl (listP kvs) :: .o tl (listP (tvs ++ [.ref ad])) :: σ))) :
    Sw B A (execs ((forBdy law4).drop 4) env) Φ NoE (.o env.locals (frameP lawKs (law4V l r d none parts none none)) ::
      lawCs c1 c2 c3 c4 c5 c6 c7 none none (some (.int i ki)) (some (.ref kl)) (some (.ref tl)) (some (.int sz ks)) xv (.o tu (tupP [.int (if isD then 1 else 0) kt, .ref pl]) :: .o pl (listP pv) :: .o kl (listP kvs) :: .o tl (listP tvs) :: σ)) := by
  refine Sw.shrinkN ?_
  refine Sw.execs_cons (Sw.s_ExprE E ?_)
  refine Sw.e_Call_Meth F.plainAttrs_list F.slot_list_append F.type_list_append ?_
  walk_at "py"
  refine ⟨MethOn.own (P := listP tvs) (by walk_at "mem") (fun o h => by obtain ⟨n, rfl⟩ := h; exact ⟨rfl, rfl⟩), ?_⟩
  walk_at "py"
  refine Sw.e_SubscriptA ?_
  walk_at "py"
  refine atL (vs := kvs) (by walk_at "mem") (by omega) (by omega) hk ?_
  walk_at "py"
  refine atT (vs := [.int (if isD then 1 else 0) kt, .ref pl]) (by walk_at "mem") (by decide) (by decide) rfl ?_
  walk_at "py"
  refine Sw.eqI ?_
  refine Sw.truthy_bool ?_
  cases isD with
  | true =>
    refine ite_neg (by decide) ?_
    refine Sw.newDict fun ad => ?_
    refine Args.nil ?_
    refine Sw.appendL (vs := tvs) (by walk_at "upd") (by omega) ?_
    refine Sw.execs_nil ⟨_, ?_, y ad⟩
    show Subp (_ :: lawCs _ _ _ _ _ _ _ _ _ _ _ _ _ _ (.o ad (dictP B.w []) :: _)) _
    walk_at "subc"
  | false =>
    refine ite_pos (by decide) ?_
    refine Sw.e_List (Args.nil ⟨by decide, _, _, rfl, fun ad => ?_⟩)
    refine Args.nil ?_
    refine Sw.appendL (vs := tvs) (by walk_at "upd") (by omega) ?_
    refine Sw.execs_nil ⟨_, ?_, y ad⟩
    show Subp (_ :: lawCs _ _ _ _ _ _ _ _ _ _ _ _ _ _ (.o ad (listP []) :: _)) _
    walk_at "subc"
end
end

-- N6
section
local macro_rules | `(tactic| walk_at "gl") => `(tactic| with_reducible first | exact g_names _ | exact g_words _ | exact g_walk _ | exact g_same _ | exact g_part _)
local macro_rules | `(tactic| walk_at "bl") => `(tactic| with_reducible first | exact b_range | exact b_sum | exact b_next | exact b_enum)
local macro_rules | `(tactic| walk_at "subc") => `(tactic| (refine Subp.of_cnt fun _ => ?_; simp only [compEnvC, cstate, cnt_append, cnt_cons, cnt_nil, List.map_nil, List.map_cons, lawVs]; omega))
theorem rowsI_bnd {ns : List Int} {x : Int} (h : x ∈ rowsI ns) : 0 ≤ x ∧ x < 5040 := by
  obtain ⟨y, _, rfl⟩ := List.mem_map.mp h
  exact ⟨Int.fmod_nonneg_of_pos _ (by decide), Int.fmod_lt_of_pos _ (by decide)⟩
theorem drI_bnd {ns : List Int} (i : Nat) : 0 ≤ (drI ns).getD i 0 ∧ (drI ns).getD i 0 < 5040 := by
  rw [List.getD_eq_getElem?_getD]
  cases h : (drI ns)[i]? with
  | none => simp
  | some x =>
    have hm : x ∈ drI ns := List.mem_of_getElem? h
    unfold drI at hm
    rcases List.mem_append.mp hm with hm | hm
    · exact rowsI_bnd hm
    · simp at hm; subst hm; simp
theorem szI_or (ns : List Int) : szI ns = 2 ∨ szI ns = 3 := by
  unfold szI
  have h1 := Int.fmod_nonneg_of_pos ((drI ns).getD 0 0) (b := 2) (by decide)
  have h2 := Int.fmod_lt_of_pos ((drI ns).getD 0 0) (b := 2) (by decide)
  omega
theorem drI_len {ns : List Int} : 3 ≤ (drI ns).length := by unfold drI; simp
section
variable {B : Bx} {A : Around} {Ψ : Value → SH → Prop} {σ τ S R T : SH} {env : Env}
theorem law4_loop {l r d kl tl it : Addr} {ns : List Int} {dv : List Value} {ks : Tok} {c1 c2 c3 c4 c5 c6 c7 : Addr} {Q : Result → SH → Prop} (E : EnvOk env lawKs lawFs) (GE : GlbOk env lawGs) (CK : CellOk env lawFs) (hs : env.scope = fnScope lawSt) (CE : env.cells = lawFs.zip [c1, c2, c3, c4, c5, c6, c7]) (hh : A.handled = none) (hr : Roomy A 2)
    (md : Cl.o d (listP dv) ∈ σ) (hd : IntsAre dv (drI ns)) {m : Nat} (hm : (m : Int) = szI ns)
    (hQ : ∀ parts iv xv xs, xs.length = m → ItOk ns xs → Q (.ok .next) (.o env.locals (frameP lawKs (law4V l r d none parts none none)) ::
      lawCs c1 c2 c3 c4 c5 c6 c7 none none iv (some (.ref kl)) (some (.ref tl)) (some (.int (szI ns) ks)) xv (.o kl (listP (xs.map fun x => .ref x.tu)) :: .o tl (listP (xs.map fun x => .ref x.ad)) :: (itS B.w xs ++ σ)))) :
    ∀ (n i : Nat) (xs : List It) (parts iv xv : Option Value), i + n = m → xs.length = i → ItOk ns xs → Sc B A (.forLoop (forTgt law4) (.ref it) (forBdy law4) [] env) Q (.o env.locals (frameP lawKs (law4V l r d none parts none none)) ::
      lawCs c1 c2 c3 c4 c5 c6 c7 none none iv (some (.ref kl)) (some (.ref tl)) (some (.int (szI ns) ks)) xv (.o it (riP (i : Int) ((m : Int) - (i : Int))) :: .o kl (listP (xs.map fun x => .ref x.tu)) :: .o tl (listP (xs.map fun x => .ref x.ad)) :: (itS B.w xs ++ σ))) := by
  have hm3 : m ≤ 3 := by rcases szI_or ns with h | h <;> omega
  intro n
  induction n with
  | zero =>
    intro i xs parts iv xv hi hx hok
    have e : i = m := by omega
    subst e
    refine Sc.for1 (Sw.next_range_end hh (by walk_at "del") (by omega) ?_)
    exact Sw.execs_nil (hQ parts iv xv xs hx hok)
  | succ n ih =>
    intro i xs parts iv xv hi hx hok
    have hlt : i < m := by omega
    have hb := drI_bnd (ns := ns) i
    have hdi : (drI ns)[i]? = some ((drI ns).getD i 0) := by
      have : i < (drI ns).length := by have := drI_len (ns := ns); omega
      rw [List.getD_eq_getElem?_getD, List.getElem?_eq_getElem this]; rfl
    obtain ⟨kx, hkx⟩ := Mine.IntsAre.get hd hdi
    refine Sc.for1 (Sw.next_range (x := (i : Int)) (left := (m : Int) - (i : Int)) (by walk_at "upd") (by omega) fun ki => ?_)
    refine Sw.pure (Sw.assign_Name (Sw.stC E CK CE (.tail (.tail .head)) (u := iv) (.tail (.tail (.tail .head))) ?_))
    refine Sw.execs_cons (Sw.s_Assign_Name ?_)
    walk_at "py"
    refine atL (vs := dv) (.tail _ (.tail _ (.tail _ (.tail _ (.tail _ (.tail _ (.tail _ (.tail _ (.tail _ (.tail _ (.tail _ (List.mem_append_right _ md)))))))))))) (by omega) (by omega) (v := .int ((drI ns).getD i 0) kx) (by simpa using hkx) ?_
    refine Sw.stC E CK CE (.tail (.tail (.tail (.tail (.tail (.tail .head)))))) (u := xv) (.tail (.tail (.tail (.tail (.tail (.tail (.tail .head))))))) ?_
    refine law_b1 (sz := szI ns) E GE hs CE hh hr hb.1 hb.2 (szI_or ns) fun pl pv hpv => ?_
    refine law_b2 (sz := szI ns) E CE hpv fun pv hpv => ?_
    refine Sw.subp (τ := .o env.locals (frameP lawKs (law4V l r d none (some (.ref pl)) none none)) ::
      lawCs c1 c2 c3 c4 c5 c6 c7 none none (some (.int i ki)) (some (.ref kl)) (some (.ref tl)) (some (.int (szI ns) ks)) (some (.int ((drI ns).getD i 0) kx)) (.o kl (listP (xs.map fun x => .ref x.tu)) :: .o pl (listP pv) :: (.o it (riP ((i : Int) + 1) ((m : Int) - (i : Int) - 1)) :: .o tl (listP (xs.map fun x => .ref x.ad)) :: (itS B.w xs ++ σ)))) ?_ (by walk_at "subc")
    refine law_b3 (sz := szI ns) E CE hpv (by simp; omega) fun tu pl' pv' kt parts hpv' => ?_
    refine Sw.subp (τ := .o env.locals (frameP lawKs (law4V l r d none parts none none)) ::
      lawCs c1 c2 c3 c4 c5 c6 c7 none none (some (.int i ki)) (some (.ref kl)) (some (.ref tl)) (some (.int (szI ns) ks)) (some (.int ((drI ns).getD i 0) kx)) (.o tu (tupP [.int (if isDOf ((drI ns).getD i 0) then 1 else 0) kt, .ref pl']) :: .o pl' (listP pv') :: .o kl (listP ((xs.map fun x => .ref x.tu) ++ [.ref tu])) :: .o tl (listP (xs.map fun x => .ref x.ad)) :: (.o it (riP ((i : Int) + 1) ((m : Int) - (i : Int) - 1)) :: (itS B.w xs ++ σ)))) ?_ (by walk_at "subc")
    refine law_b4 (sz := szI ns) E CE (by omega) (by rw [List.getElem?_append_right (by simp; omega)]; simp [hx]) (by simp; omega) fun ad => ?_
    have z := ih (i + 1) (xs ++ [⟨ad, tu, pl', isDOf ((drI ns).getD i 0), kt, pv', ptOf ((drI ns).getD i 0) i (szI ns)⟩]) parts (some (.int i ki)) (some (.int ((drI ns).getD i 0) kx)) (by omega) (by simp [hx]) (hok.snoc (by rw [hx]) (by rw [hx]) hpv')
    refine z.sub' ?_
    rw [itS_snoc, List.map_append, List.map_append]
    have e1 : ((i + 1 : Nat) : Int) = (i : Int) + 1 := rfl
    have e2 : (m : Int) - ((i : Int) + 1) = (m : Int) - (i : Int) - 1 := by omega
    rw [e1, e2]
    simp only [It.cells, List.map_cons, List.map_nil]
    walk_at "subc"
end
end

-- N7
section
local macro_rules | `(tactic| walk_at "gl") => `(tactic| with_reducible first | exact g_names _ | exact g_words _ | exact g_walk _ | exact g_same _ | exact g_part _)
local macro_rules | `(tactic| walk_at "bl") => `(tactic| with_reducible first | exact b_range | exact b_sum | exact b_next | exact b_enum)
local macro_rules | `(tactic| walk_at "subc") => `(tactic| (refine Subp.of_cnt fun _ => ?_; simp only [compEnvC, cstate, cnt_append, cnt_cons, cnt_nil, List.map_nil, List.map_cons, lawVs]; omega))
def lawTok : Nat → Tok
  | 1 => 619
  | 2 => 621
  | 4 => 625
  | _ => 627
@[reducible] def thOf (xs : List It) : Th := { sz := xs.length, ad := fun i => (xs[i]?.map It.ad).getD 0, isD := fun i => (xs[i]?.map It.isD).getD false, pt := fun i => (xs[i]?.map It.pt).getD [], tok := lawTok }
@[reducible] def kdOf (kl : Addr) (xs : List It) : Kd := { kl := kl, tu := fun i => (xs[i]?.map It.tu).getD 0, pl := fun i => (xs[i]?.map It.pl).getD 0, kt := fun i => (xs[i]?.map It.kt).getD 0, pv := fun i => (xs[i]?.map It.pv).getD [] }
-- a thing that holds its first n parts
def Th.wordN (t : Th) (w : World) (i n : Nat) : Obj → Prop := if t.isD i then dictP w ((t.kv i).take n) else listP (((t.pt i).take n).map t.pv)
theorem Th.wordN_full {t : Th} {w : World} {i n : Nat} (h : n = (t.pt i).length) : t.wordN w i n = t.word w i := by
  subst h
  unfold Th.wordN Th.word
  rw [← Th.kv_length, List.take_length, Th.kv_length, List.take_length]
theorem Th.wordN_zero {t : Th} {w : World} {i : Nat} : t.wordN w i 0 = wd0 w (t.isD i) := by
  unfold Th.wordN wd0
  simp
def thS (t : Th) (w : World) (f : Nat → Nat) : SH := (List.range t.sz).map fun i => .o (t.ad i) (t.wordN w i (f i))
def kdS (K : Kd) (t : Th) : SH := (List.range t.sz).flatMap fun i => [.o (K.tu i) (tupP [.int (if t.isD i then 1 else 0) (K.kt i), .ref (K.pl i)]), .o (K.pl i) (listP (K.pv i))]
theorem Upd.left {a : Addr} {P P' : Obj → Prop} {r : SH} : ∀ {σ τ : SH}, Upd a P P' σ τ → Upd a P P' (σ ++ r) (τ ++ r)
  | _, _, .head => .head
  | _, _, .tail u => .tail (Upd.left u)
theorem Upd.right {a : Addr} {P P' : Obj → Prop} : ∀ {l σ τ : SH}, Upd a P P' σ τ → Upd a P P' (l ++ σ) (l ++ τ)
  | [], _, _, u => u
  | _ :: l, _, _, u => .tail (Upd.right (l := l) u)
theorem upd_range {ad : Nat → Addr} {f f' : Nat → Obj → Prop} {i : Nat} (he : ∀ j, j ≠ i → f' j = f j) : ∀ n, i < n → Upd (ad i) (f i) (f' i) ((List.range n).map fun j => .o (ad j) (f j)) ((List.range n).map fun j => .o (ad j) (f' j))
  | 0, h => absurd h (Nat.not_lt_zero _)
  | n + 1, h => by
    rw [List.range_succ, List.map_append, List.map_append]
    by_cases hn : i = n
    · subst hn
      have : ((List.range i).map fun j => Cl.o (ad j) (f' j)) = (List.range i).map fun j => .o (ad j) (f j) := List.map_congr_left fun j hj => by
        have := List.mem_range.mp hj
        rw [he j (by omega)]
      rw [this]
      exact Upd.right .head
    · have e : f' n = f n := he n (fun h => hn h.symm)
      have z := upd_range (ad := ad) he n (by omega)
      simp only [List.map_cons, List.map_nil]
      rw [e]
      exact Upd.left z
theorem thS_upd {t : Th} {w : World} {f f' : Nat → Nat} {i : Nat} (hi : i < t.sz) (he : ∀ j, j ≠ i → f' j = f j) : Upd (t.ad i) (t.wordN w i (f i)) (t.wordN w i (f' i)) (thS t w f) (thS t w f') :=
  upd_range (f := fun j => t.wordN w j (f j)) (f' := fun j => t.wordN w j (f' j)) (fun j hj => by rw [he j hj]) t.sz hi
theorem thS_mem {t : Th} {w : World} {f : Nat → Nat} {i : Nat} (hi : i < t.sz) : Cl.o (t.ad i) (t.wordN w i (f i)) ∈ thS t w f := List.mem_map.mpr ⟨i, List.mem_range.mpr hi, rfl⟩
theorem kdS_tu {t : Th} {K : Kd} {i : Nat} (hi : i < t.sz) : Cl.o (K.tu i) (tupP [.int (if t.isD i then 1 else 0) (K.kt i), .ref (K.pl i)]) ∈ kdS K t := List.mem_flatMap.mpr ⟨i, List.mem_range.mpr hi, .head _⟩
theorem kdS_pl {t : Th} {K : Kd} {i : Nat} (hi : i < t.sz) : Cl.o (K.pl i) (listP (K.pv i)) ∈ kdS K t := List.mem_flatMap.mpr ⟨i, List.mem_range.mpr hi, .tail _ (.head _)⟩
theorem cnt_perm {a b : SH} (c : Cl) (h : a.Perm b) : cnt c a = cnt c b := by
  induction h with
  | nil => rfl
  | cons x _ ih => rw [cnt_cons, cnt_cons, ih]
  | swap x y l => rw [cnt_cons, cnt_cons, cnt_cons, cnt_cons]; omega
  | trans _ _ ih1 ih2 => rw [ih1, ih2]
theorem Subp.to_cnt {a b : SH} (h : Subp a b) (c : Cl) : cnt c a ≤ cnt c b := by
  obtain ⟨r, hr⟩ := h
  rw [cnt_perm c hr, cnt_append]
  omega
-- what loop 4 made, in two parts
theorem itS_split {w : World} {kl : Addr} {xs : List It} (h : xs.length = 2 ∨ xs.length = 3) : Subp (thS (thOf xs) w (fun _ => 0) ++ kdS (kdOf kl xs) (thOf xs)) (itS w xs) := by
  have e2 : List.range 2 = [0, 1] := rfl
  have e3 : List.range 3 = [0, 1, 2] := rfl
  rcases h with h | h
  · match xs, h with
    | [a, b], _ =>
      simp only [thS, kdS, itS, thOf, kdOf, List.length_cons, List.length_nil, e2, List.map_cons, List.map_nil, List.flatMap_cons, List.flatMap_nil, Th.wordN_zero, It.cells]
      simp
      walk_at "subp"
  · match xs, h with
    | [a, b, c], _ =>
      simp only [thS, kdS, itS, thOf, kdOf, List.length_cons, List.length_nil, e3, List.map_cons, List.map_nil, List.flatMap_cons, List.flatMap_nil, Th.wordN_zero, It.cells]
      simp
      walk_at "subp"
section
variable {B : Bx} {A : Around} {Ψ : Value → SH → Prop} {σ τ S R T : SH} {env : Env}
theorem law_s4 {l r d kl tl : Addr} {ns : List Int} {dv : List Value} {ks : Tok} {c1 c2 c3 c4 c5 c6 c7 : Addr} {Φ : Flow → SH → Prop} (E : EnvOk env lawKs lawFs) (GE : GlbOk env lawGs) (CK : CellOk env lawFs) (hs : env.scope = fnScope lawSt) (CE : env.cells = lawFs.zip [c1, c2, c3, c4, c5, c6, c7]) (hh : A.handled = none) (hr : Roomy A 2)
    (md : Cl.o d (listP dv) ∈ σ) (hd : IntsAre dv (drI ns))
    (y : ∀ parts iv xv xs, (xs.length : Int) = szI ns → ItOk ns xs → Sw B A (execs ((fnBody lawSt).drop 5) env) Φ NoE (.o env.locals (frameP lawKs (law4V l r d none parts none none)) ::
      lawCs c1 c2 c3 c4 c5 c6 c7 none none iv (some (.ref kl)) (some (.ref tl)) (some (.int (szI ns) ks)) xv (.o kl (listP (xs.map fun x => .ref x.tu)) :: .o tl (listP (xs.map fun x => .ref x.ad)) :: (thS (thOf xs) B.w (fun _ => 0) ++ (kdS (kdOf kl xs) (thOf xs) ++ σ))))) :
    Sw B A (execs ((fnBody lawSt).drop 4) env) Φ NoE (.o env.locals (frameP lawKs (law4V l r d none none none none)) ::
      lawCs c1 c2 c3 c4 c5 c6 c7 none none none (some (.ref kl)) (some (.ref tl)) (some (.int (szI ns) ks)) none (.o kl (listP []) :: .o tl (listP []) :: σ)) := by
  refine Sw.execs_cons (Sw.s_For ?_)
  refine Sw.e_Call_Name ?_
  walk_at "py"
  refine ⟨trivial, Sw.call_range fun rg => ?_⟩
  obtain ⟨m, hm⟩ : ∃ m : Nat, (m : Int) = szI ns := ⟨(szI ns).toNat, by rcases szI_or ns with h | h <;> omega⟩
  have hm3 : m = 2 ∨ m = 3 := by rcases szI_or ns with h | h <;> omega
  rw [← hm]
  refine Sw.iter_range (n := (m : Int)) (by omega) (by omega) (.tail _ (.head _)) fun it => ?_
  rw [hm]
  refine Sc.sub' (law4_loop (it := it) (l := l) (r := r) (d := d) (kl := kl) (tl := tl) (σ := σ) (ks := ks) E GE CK hs CE hh hr md hd hm (fun parts iv xv xs hx hok => ?_) m 0 [] none none none (by omega) rfl (fun i x h => by simp at h)) ?_
  · refine Sw.subp (y parts iv xv xs (by omega) hok) ?_
    have z := itS_split (w := B.w) (kl := kl) (xs := xs) (by omega)
    have : ∀ c, cnt c (thS (thOf xs) B.w (fun _ => 0)) + cnt c (kdS (kdOf kl xs) (thOf xs)) ≤ cnt c (itS B.w xs) := fun c => by rw [← cnt_append]; exact Subp.to_cnt z c
    refine Subp.of_cnt fun c => ?_
    have := this c
    simp only [cnt_append, cnt_cons]
    omega
  · simp only [List.map_nil, itS, List.flatMap_nil, List.nil_append, Int.ofNat_zero, Int.natCast_zero, Int.sub_zero]
    rw [hm]
    walk_at "subc"
end
end

-- N8
section
local macro_rules | `(tactic| walk_at "gl") => `(tactic| with_reducible first | exact g_names _ | exact g_words _ | exact g_walk _ | exact g_same _ | exact g_part _)
local macro_rules | `(tactic| walk_at "bl") => `(tactic| with_reducible first | exact b_range | exact b_sum | exact b_next | exact b_enum)
local macro_rules | `(tactic| walk_at "subc") => `(tactic| (refine Subp.of_cnt fun _ => ?_; simp only [compEnvC, cstate, cnt_append, cnt_cons, cnt_nil, List.map_nil, List.map_cons, lawVs]; omega))
def law5 : Stmt := lawAt 5
def law5i : Stmt := stAt law5 0
theorem lwWord_tok {t : Th} (ht : t.tok = lawTok) : ∀ j, j < 6 → (lwWord j)[0]? = some (wordV t j)
  | 0, _ => rfl
  | 1, _ => by unfold wordV; rw [ht]; rfl
  | 2, _ => by unfold wordV; rw [ht]; rfl
  | 3, _ => rfl
  | 4, _ => by unfold wordV; rw [ht]; rfl
  | 5, _ => by unfold wordV; rw [ht]; rfl
  | n + 6, h => absurd h (by omega)
theorem Th.kv_get {t : Th} {i n : Nat} {q : Int} (h : (t.pt i)[n]? = some q) : (t.kv i)[n]? = some (nameK n, t.pv q) := by
  unfold Th.kv
  rw [List.getElem?_map, List.getElem?_zipIdx, h]
  simp
theorem stored_kv {t : Th} {i n : Nat} {q : Int} (h : (t.pt i)[n]? = some q) (hl : (t.pt i).length ≤ 3) : stored ((t.kv i).take n) (nameK n) (t.pv q) = (t.kv i).take (n + 1) := by
  have hn : n < (t.pt i).length := (List.getElem?_eq_some_iff.mp h).1
  have hk : ((t.kv i).take n).map (·.1) = (List.range n).map nameK := by
    rw [List.map_take, Th.kv_fst, ← List.map_take, List.take_range]
    congr 2
    omega
  have ha : ((t.kv i).take n).any (fun kv => decide (kv.1 = nameK n)) = false := by
    have : ((t.kv i).take n).any (fun kv => decide (kv.1 = nameK n)) = (((t.kv i).take n).map (·.1)).any (fun k => decide (k = nameK n)) := by rw [List.any_map]; rfl
    rw [this, hk]
    match n, (show n < 3 by omega) with
    | 0, _ => rfl
    | 1, _ => decide
    | 2, _ => decide
  unfold stored
  rw [ha, if_neg Bool.false_ne_true, List.take_add_one, Th.kv_get h]
  rfl
section
variable {B : Bx} {A : Around} {Ψ : Value → SH → Prop} {σ τ S R T : SH} {env : Env} {t : Th} {K : Kd}
theorem law5_turn {l r d tl : Addr} {i : Nat} {ki kj kq : Tok} {sv xv v parts : Option Value} {q : Int} {dn ps : List Int} {f : Nat → Nat} {c1 c2 c3 c4 c5 c6 c7 : Addr} {Φ : Flow → SH → Prop} (E : EnvOk env lawKs lawFs) (GE : GlbOk env lawGs) (CE : env.cells = lawFs.zip [c1, c2, c3, c4, c5, c6, c7]) (hh : A.handled = none)
    (kok : KdOk K t σ) (mt : Cl.o tl (listP ((List.range t.sz).map fun i => .ref (t.ad i))) ∈ σ) (ht : t.tok = lawTok) (hi : i < t.sz) (hsz : t.sz ≤ 3) (hp : t.pt i = dn ++ q :: ps) (hl : (t.pt i).length ≤ 3) (hq : -6 ≤ q ∧ q < t.sz) (hf : f i = dn.length)
    (y : Φ .next (.o env.locals (frameP lawKs (law4V l r d (some (.int dn.length kj)) parts (some (.int q kq)) (some (t.pv q)))) ::
      lawCs c1 c2 c3 c4 c5 c6 c7 none none (some (.int i ki)) (some (.ref K.kl)) (some (.ref tl)) sv xv (thS t B.w (fun k => if k = i then dn.length + 1 else f k) ++ σ))) :
    Sw B A (execs (forBdy law5i) env) Φ NoE (.o env.locals (frameP lawKs (law4V l r d (some (.int dn.length kj)) parts (some (.int q kq)) v)) ::
      lawCs c1 c2 c3 c4 c5 c6 c7 none none (some (.int i ki)) (some (.ref K.kl)) (some (.ref tl)) sv xv (thS t B.w f ++ σ)) := by
  have hqn : (t.pt i)[dn.length]? = some q := by rw [hp]; simp
  have up : ∀ {c : Cl} {fr : List (Option Value)}, c ∈ σ → c ∈ .o env.locals (frameP lawKs fr) :: lawCs c1 c2 c3 c4 c5 c6 c7 none none (some (.int i ki)) (some (.ref K.kl)) (some (.ref tl)) sv xv (thS t B.w f ++ σ) :=
    fun hc => .tail _ (.tail _ (.tail _ (.tail _ (.tail _ (.tail _ (.tail _ (.tail _ (List.mem_append_right _ hc))))))))
  -- from the second statement on
  have rest : Sw B A (execs ((forBdy law5i).drop 1) env) Φ NoE (.o env.locals (frameP lawKs (law4V l r d (some (.int dn.length kj)) parts (some (.int q kq)) (some (t.pv q)))) ::
      lawCs c1 c2 c3 c4 c5 c6 c7 none none (some (.int i ki)) (some (.ref K.kl)) (some (.ref tl)) sv xv (thS t B.w f ++ σ)) := by
    have hu := thS_upd (t := t) (w := B.w) (f := f) (f' := fun k => if k = i then dn.length + 1 else f k) (i := i) hi (fun j hj => if_neg hj)
    rw [if_pos rfl, hf] at hu
    refine Sw.execs_cons (Sw.s_If ?_)
    walk_at "py"
    refine Sw.e_SubscriptA ?_
    walk_at "py"
    refine atKinds kok (fun c hc => up hc) hi hsz ?_
    walk_at "py"
    refine at0 kok (fun c hc => up hc) hi ?_
    walk_at "py"
    refine Sw.eqI ?_
    refine Sw.truthy_bool ?_
    cases hd : t.isD i with
    | false =>
      refine ite_pos (by decide) ?_
      have e1 : t.wordN B.w i dn.length = listP (((t.pt i).take dn.length).map t.pv) := by unfold Th.wordN; rw [hd]; rfl
      have e2 : t.wordN B.w i (dn.length + 1) = listP (((t.pt i).take dn.length).map t.pv ++ [t.pv q]) := by
        unfold Th.wordN; rw [hd, if_neg Bool.false_ne_true, List.take_add_one, hqn]; simp
      rw [e1, e2] at hu
      refine Sw.execs_cons (Sw.s_ExprE E ?_)
      refine Sw.e_Call_Meth F.plainAttrs_list F.slot_list_append F.type_list_append ?_
      walk_at "py"
      refine atL (vs := (List.range t.sz).map fun i => .ref (t.ad i)) (up mt) (by omega) (by omega) (v := .ref (t.ad i)) (by simp [hi]) ?_
      have mi : Cl.o (t.ad i) (listP (((t.pt i).take dn.length).map t.pv)) ∈ thS t B.w f := by rw [← e1, ← hf]; exact thS_mem hi
      refine ⟨MethOn.own (P := listP (((t.pt i).take dn.length).map t.pv)) (.tail _ (.tail _ (.tail _ (.tail _ (.tail _ (.tail _ (.tail _ (.tail _ (List.mem_append_left _ mi))))))))) (fun o h => by obtain ⟨n, rfl⟩ := h; exact ⟨rfl, rfl⟩), ?_⟩
      walk_at "py"
      refine Sw.appendL (.tail (.tail (.tail (.tail (.tail (.tail (.tail (.tail (Upd.left hu))))))))) (by simp; omega) ?_
      exact Sw.execs_nil (Sw.execs_nil y)
    | true =>
      refine ite_neg (by decide) ?_
      have e1 : t.wordN B.w i dn.length = dictP B.w ((t.kv i).take dn.length) := by unfold Th.wordN; rw [hd]; rfl
      have e2 : t.wordN B.w i (dn.length + 1) = dictP B.w (stored ((t.kv i).take dn.length) (nameK dn.length) (t.pv q)) := by
        rw [stored_kv hqn hl]; unfold Th.wordN; rw [hd]; rfl
      rw [e1, e2] at hu
      refine Sw.execs_cons (Sw.s_Assign_Sub ?_)
      walk_at "py"
      refine atL (vs := (List.range t.sz).map fun i => .ref (t.ad i)) (up mt) (by omega) (by omega) (v := .ref (t.ad i)) (by simp [hi]) ?_
      walk_at "py"
      have hj : dn.length < 3 := by rw [hp] at hl; simp at hl; omega
      obtain ⟨kn, hkn⟩ := lwNames_at dn.length hj
      refine atK (names_at B.w) rfl rfl (by omega) (by omega) hkn ?_
      refine Sw.setD (.tail (.tail (.tail (.tail (.tail (.tail (.tail (.tail (Upd.left hu))))))))) (by rw [List.length_take, Th.kv_length]; omega) ?_
      exact Sw.execs_nil (Sw.execs_nil y)
  refine Sw.execs_cons (Sw.s_Assign_Name ?_)
  walk_at "py"
  refine Sw.geI ?_
  refine Sw.truthy_bool ?_
  by_cases h : q < 0
  · rw [decide_eq_false (by omega)]
    refine ite_neg Bool.false_ne_true ?_
    refine Sw.e_SubscriptA ?_
    walk_at "py"
    refine Sw.negI fun k1 => ?_
    walk_at "py"
    refine Sw.subI fun k2 => ?_
    have hwx : (-1 - q).toNat < 6 := by omega
    have hpv : t.pv q = wordV t (-1 - q).toNat := by unfold Th.pv; rw [if_pos h]; rfl
    refine atK (words_at B.w) rfl rfl (by omega) (by omega) (lwWords_at _ hwx) ?_
    walk_at "py"
    refine atK (word_at B.w _ hwx) rfl rfl (by decide) (by decide) (lwWord_tok ht _ hwx) ?_
    rw [← hpv]
    exact Sw.st E (NPut.tail (.tail (.tail (.tail (.tail (.tail .head)))))) rest
  · rw [decide_eq_true (by omega)]
    refine ite_pos rfl ?_
    walk_at "py"
    have hj : q.toNat < t.sz := by omega
    have hpv : t.pv q = .ref (t.ad q.toNat) := by unfold Th.pv; rw [if_neg h]
    refine atL (vs := (List.range t.sz).map fun i => .ref (t.ad i)) (up mt) (by omega) (by omega) (v := t.pv q) (by rw [hpv]; simp [hj]) ?_
    exact Sw.st E (NPut.tail (.tail (.tail (.tail (.tail (.tail .head)))))) rest
end
end

-- N9
section
local macro_rules | `(tactic| walk_at "gl") => `(tactic| with_reducible first | exact g_names _ | exact g_words _ | exact g_walk _ | exact g_same _ | exact g_part _)
local macro_rules | `(tactic| walk_at "bl") => `(tactic| with_reducible first | exact b_range | exact b_sum | exact b_next | exact b_enum)
local macro_rules | `(tactic| walk_at "subc") => `(tactic| (refine Subp.of_cnt fun _ => ?_; simp only [compEnvC, cstate, cnt_append, cnt_cons, cnt_nil, List.map_nil, List.map_cons, lawVs]; omega))
def fil (t : Th) (i n k : Nat) : Nat := if k < i then (t.pt k).length else if k = i then n else 0
theorem fil_succ {t : Th} {i n : Nat} : (fun k => if k = i then n + 1 else fil t i n k) = fil t i (n + 1) := by
  funext k
  unfold fil
  by_cases h : k = i
  · rw [if_pos h, if_neg (by omega), if_pos h]
  · rw [if_neg h, if_neg h, if_neg h]
theorem fil_next {t : Th} {i : Nat} : fil t i (t.pt i).length = fil t (i + 1) 0 := by
  funext k
  unfold fil
  by_cases h1 : k < i
  · rw [if_pos h1, if_pos (by omega)]
  · by_cases h2 : k = i
    · subst h2; rw [if_neg h1, if_pos rfl, if_pos (by omega)]
    · rw [if_neg h1, if_neg h2, if_neg (by omega)]; split <;> rfl
theorem thS_full {t : Th} {w : World} : thS t w (fil t t.sz 0) = (List.range t.sz).map fun i => .o (t.ad i) (t.word w i) := by
  unfold thS
  refine List.map_congr_left fun i hi => ?_
  have := List.mem_range.mp hi
  rw [Th.wordN_full (by unfold fil; rw [if_pos this])]
section
variable {B : Bx} {A : Around} {Ψ : Value → SH → Prop} {σ τ S R T : SH} {env : Env} {t : Th} {K : Kd}
theorem law5_inner {l r d tl e it : Addr} {i : Nat} {ki : Tok} {sv xv parts : Option Value} {c1 c2 c3 c4 c5 c6 c7 : Addr} {Q : Result → SH → Prop} (E : EnvOk env lawKs lawFs) (GE : GlbOk env lawGs) (CE : env.cells = lawFs.zip [c1, c2, c3, c4, c5, c6, c7]) (hh : A.handled = none)
    (kok : KdOk K t σ) (mt : Cl.o tl (listP ((List.range t.sz).map fun i => .ref (t.ad i))) ∈ σ) (ht : t.tok = lawTok) (hi : i < t.sz) (hsz : t.sz ≤ 3) (hl : (t.pt i).length ≤ 3) (hlow : ∀ q ∈ t.pt i, -6 ≤ q ∧ q < t.sz)
    (hQ : ∀ j part v ρ, Q (.ok .next) (.o env.locals (frameP lawKs (law4V l r d j parts part v)) ::
      lawCs c1 c2 c3 c4 c5 c6 c7 none none (some (.int i ki)) (some (.ref K.kl)) (some (.ref tl)) sv xv (thS t B.w (fil t (i + 1) 0) ++ (ρ ++ σ)))) :
    ∀ (ps dn : List Int), t.pt i = dn ++ ps → ∀ (j part v : Option Value) (ρ : SH), Sc B A (.forLoop (forTgt law5i) (.ref e) (forBdy law5i) [] env) Q (.o env.locals (frameP lawKs (law4V l r d j parts part v)) ::
      lawCs c1 c2 c3 c4 c5 c6 c7 none none (some (.int i ki)) (some (.ref K.kl)) (some (.ref tl)) sv xv (thS t B.w (fil t i dn.length) ++ (.o e (enP it dn.length) :: .o it (liP (K.pl i) dn.length) :: (ρ ++ σ)))) := by
  intro ps
  induction ps with
  | nil =>
    intro dn hdn j part v ρ
    refine Sc.for1 ?_
    refine Sw.subp (τ := .o e (enP it dn.length) :: .o it (liP (K.pl i) dn.length) :: .o env.locals (frameP lawKs (law4V l r d j parts part v)) ::
      lawCs c1 c2 c3 c4 c5 c6 c7 none none (some (.int i ki)) (some (.ref K.kl)) (some (.ref tl)) sv xv (thS t B.w (fil t i dn.length) ++ (ρ ++ σ))) ?_ (by walk_at "subc")
    refine Sw.enum_end (l := K.pl i) (vs := K.pv i) (i := dn.length) hh (.tail _ (.tail _ (.tail _ (.tail _ (.tail _ (.tail _ (.tail _ (.tail _ (List.mem_append_right _ (List.mem_append_right _ (kok.parts i hi))))))))))) (by have := (kok.numb i hi).length; rw [hdn] at this; simp at this; exact List.getElem?_eq_none (by omega)) ?_
    refine Sw.execs_nil ?_
    have e1 : dn.length = (t.pt i).length := by rw [hdn]; simp
    rw [e1, fil_next]
    exact hQ j part v ρ
  | cons q ps ih =>
    intro dn hdn j part v ρ
    obtain ⟨kq, hkq⟩ := Mine.IntsAre.get (kok.numb i hi) (i := dn.length) (n := q) (by rw [hdn]; simp)
    refine Sc.for1 ?_
    refine Sw.subp (τ := .o e (enP it dn.length) :: .o it (liP (K.pl i) dn.length) :: .o env.locals (frameP lawKs (law4V l r d j parts part v)) ::
      lawCs c1 c2 c3 c4 c5 c6 c7 none none (some (.int i ki)) (some (.ref K.kl)) (some (.ref tl)) sv xv (thS t B.w (fil t i dn.length) ++ (ρ ++ σ))) ?_ (by walk_at "subc")
    refine Sw.next_enum (l := K.pl i) (vs := K.pv i) (v := .int q kq) (.tail _ (.tail _ (.tail _ (.tail _ (.tail _ (.tail _ (.tail _ (.tail _ (List.mem_append_right _ (List.mem_append_right _ (kok.parts i hi))))))))))) hkq fun tu kj => ?_
    refine Sw.go_enum ?_
    refine Sw.subp (τ := .o env.locals (frameP lawKs (law4V l r d j parts part v)) ::
      lawCs c1 c2 c3 c4 c5 c6 c7 none none (some (.int i ki)) (some (.ref K.kl)) (some (.ref tl)) sv xv (thS t B.w (fil t i dn.length) ++ (.o tu (tupP [.int dn.length kj, .int q kq]) :: .o e (enP it ((dn.length : Int) + 1)) :: .o it (liP (K.pl i) (dn.length + 1)) :: (ρ ++ σ)))) ?_ (by walk_at "subc")
    refine Sw.assign_pair hh (v1 := .int dn.length kj) (v2 := .int q kq) (.tail _ (.tail _ (.tail _ (.tail _ (.tail _ (.tail _ (.tail _ (.tail _ (List.mem_append_right _ (.head _)))))))))) ?_
    refine Sw.assign_Name (Sw.st E (NPut.tail (.tail (.tail .head))) ?_)
    refine Sw.assign_Name (Sw.st E (NPut.tail (.tail (.tail (.tail (.tail .head))))) ?_)
    have hsub : ∀ c ∈ σ, c ∈ Cl.o tu (tupP [.int dn.length kj, .int q kq]) :: .o e (enP it ((dn.length : Int) + 1)) :: .o it (liP (K.pl i) (dn.length + 1)) :: (ρ ++ σ) := fun c hc => .tail _ (.tail _ (.tail _ (List.mem_append_right _ hc)))
    refine law5_turn (l := l) (r := r) (d := d) (dn := dn) (q := q) (ps := ps) E GE CE hh (kok.mono hsub) (hsub _ mt) ht hi hsz hdn hl (hlow q (by rw [hdn]; simp)) (by unfold fil; rw [if_neg (Nat.lt_irrefl _), if_pos rfl]) ?_
    rw [fil_succ]
    have z := ih (dn ++ [q]) (by rw [hdn]; simp) (some (.int dn.length kj)) (some (.int q kq)) (some (t.pv q)) (.o tu (tupP [.int dn.length kj, .int q kq]) :: ρ)
    have hc : ((dn.length + 1 : Nat) : Int) = (dn.length : Int) + 1 := rfl
    rw [show (dn ++ [q]).length = dn.length + 1 by simp, hc] at z
    exact z.sub' (by walk_at "subc")
theorem law5_outer {l r d tl it : Addr} {sv xv parts : Option Value} {c1 c2 c3 c4 c5 c6 c7 : Addr} {Q : Result → SH → Prop} (E : EnvOk env lawKs lawFs) (GE : GlbOk env lawGs) (CK : CellOk env lawFs) (CE : env.cells = lawFs.zip [c1, c2, c3, c4, c5, c6, c7]) (hh : A.handled = none)
    (kok : KdOk K t σ) (mt : Cl.o tl (listP ((List.range t.sz).map fun i => .ref (t.ad i))) ∈ σ) (ht : t.tok = lawTok) (hsz : t.sz ≤ 3) (hl : ∀ i, i < t.sz → (t.pt i).length ≤ 3) (hlow : ∀ i, i < t.sz → ∀ q ∈ t.pt i, -6 ≤ q ∧ q < t.sz)
    (hQ : ∀ j part v iv ρ, Q (.ok .next) (.o env.locals (frameP lawKs (law4V l r d j parts part v)) ::
      lawCs c1 c2 c3 c4 c5 c6 c7 none none iv (some (.ref K.kl)) (some (.ref tl)) sv xv (thS t B.w (fil t t.sz 0) ++ (ρ ++ σ)))) :
    ∀ (n i : Nat), i + n = t.sz → ∀ (j part v iv : Option Value) (ρ : SH), Sc B A (.forLoop (forTgt law5) (.ref it) (forBdy law5) [] env) Q (.o env.locals (frameP lawKs (law4V l r d j parts part v)) ::
      lawCs c1 c2 c3 c4 c5 c6 c7 none none iv (some (.ref K.kl)) (some (.ref tl)) sv xv (.o it (riP (i : Int) ((t.sz : Int) - (i : Int))) :: (thS t B.w (fil t i 0) ++ (ρ ++ σ)))) := by
  intro n
  induction n with
  | zero =>
    intro i hi j part v iv ρ
    have e : i = t.sz := by omega
    subst e
    refine Sc.for1 (Sw.next_range_end hh (by walk_at "del") (by omega) ?_)
    exact Sw.execs_nil (hQ j part v iv ρ)
  | succ n ih =>
    intro i hi j part v iv ρ
    have hlt : i < t.sz := by omega
    refine Sc.for1 (Sw.next_range (x := (i : Int)) (left := (t.sz : Int) - (i : Int)) (by walk_at "upd") (by omega) fun ki => ?_)
    refine Sw.pure (Sw.assign_Name (Sw.stC E CK CE (.tail (.tail .head)) (u := iv) (.tail (.tail (.tail .head))) ?_))
    refine Sw.execs_cons (Sw.s_For ?_)
    refine Sw.e_Call_Name ?_
    walk_at "py"
    refine Sw.e_SubscriptA ?_
    walk_at "py"
    have up : ∀ {c : Cl} {fr : List (Option Value)}, c ∈ σ → c ∈ .o env.locals (frameP lawKs fr) :: lawCs c1 c2 c3 c4 c5 c6 c7 none none (some (.int i ki)) (some (.ref K.kl)) (some (.ref tl)) sv xv (.o it (riP ((i : Int) + 1) ((t.sz : Int) - (i : Int) - 1)) :: (thS t B.w (fil t i 0) ++ (ρ ++ σ))) :=
      fun hc => .tail _ (.tail _ (.tail _ (.tail _ (.tail _ (.tail _ (.tail _ (.tail _ (.tail _ (List.mem_append_right _ (List.mem_append_right _ hc))))))))))
    refine atKinds kok (fun c hc => up hc) hlt hsz ?_
    walk_at "py"
    refine at1 kok (fun c hc => up hc) hlt ?_
    refine ⟨trivial, ?_⟩
    refine Sw.call_enum (l := K.pl i) (vs := K.pv i) (up (kok.parts i hlt)) fun e it2 => ?_
    refine Sw.iter_enum (it := it2) (i := 0) (by walk_at "mem") ?_
    have hsub : ∀ c ∈ σ, c ∈ Cl.o it (riP ((i : Int) + 1) ((t.sz : Int) - (i : Int) - 1)) :: (ρ ++ σ) := fun c hc => .tail _ (List.mem_append_right _ hc)
    refine Sc.sub' (law5_inner (l := l) (r := r) (d := d) (tl := tl) (e := e) (it := it2) (ki := ki) (sv := sv) (xv := xv) (parts := parts) (σ := .o it (riP ((i : Int) + 1) ((t.sz : Int) - (i : Int) - 1)) :: (ρ ++ σ)) E GE CE hh (kok.mono hsub) (hsub _ mt) ht hlt hsz (hl i hlt) (hlow i hlt) (fun j part v ρ' => ?_) (t.pt i) [] rfl j part v []) ?_
    · refine Sw.execs_nil ?_
      have z := ih (i + 1) (by omega) j part v (some (.int i ki)) (ρ' ++ ρ)
      have e1 : ((i + 1 : Nat) : Int) = (i : Int) + 1 := rfl
      have e2 : (t.sz : Int) - ((i : Int) + 1) = (t.sz : Int) - (i : Int) - 1 := by omega
      rw [e1, e2] at z
      exact z.sub' (by walk_at "subc")
    · simp only [List.length_nil, List.nil_append, Int.ofNat_zero, Int.natCast_zero]
      walk_at "subc"
-- what holds of the law's things
theorem partI_bnd {q s : Int} (hs : s = 2 ∨ s = 3) (h0 : 0 ≤ q) (h1 : q < 2 * s + 6) : -6 ≤ partI q s ∧ partI q s < s := by
  unfold partI
  split
  · have h2 := Int.fmod_nonneg_of_pos q (b := s) (by omega)
    have h3 := Int.fmod_lt_of_pos q (b := s) (by omega)
    omega
  · omega
theorem ptOf_bnd {x i s : Int} (hs : s = 2 ∨ s = 3) : ∀ p ∈ ptOf x i s, -6 ≤ p ∧ p < s := by
  have h0 : ∀ p ∈ parts0 x i s, -6 ≤ p ∧ p < s := fun p hp => by
    obtain ⟨j, _, rfl⟩ := List.mem_map.mp hp
    exact partI_bnd hs (Int.fmod_nonneg_of_pos _ (by omega)) (Int.fmod_lt_of_pos _ (by omega))
  intro p hp
  unfold ptOf at hp
  split at hp
  · cases hp
  · unfold partsF at hp
    split at hp
    · rcases List.mem_append.mp hp with hp | hp
      · exact h0 p hp
      · have := List.mem_singleton.mp hp
        subst this
        have h2 := Int.fmod_nonneg_of_pos (x.fdiv 2) (b := 6) (by decide)
        have h3 := Int.fmod_lt_of_pos (x.fdiv 2) (b := 6) (by decide)
        omega
    · exact h0 p hp
theorem ptOf_len {x i s : Int} : (ptOf x i s).length ≤ 3 := by
  have h0 := parts0_len (x := x) (i := i) (sz := s)
  unfold ptOf
  split
  · exact Nat.zero_le _
  · unfold partsF
    split
    · simp; omega
    · omega
theorem thOf_at {xs : List It} {i : Nat} (hi : i < xs.length) : (thOf xs).pt i = xs[i].pt ∧ (thOf xs).isD i = xs[i].isD ∧ (thOf xs).ad i = xs[i].ad := by
  simp [thOf, List.getElem?_eq_getElem hi]
theorem th_facts {ns : List Int} {xs : List It} (hx : (xs.length : Int) = szI ns) (hok : ItOk ns xs) : (∀ i, i < xs.length → ((thOf xs).pt i).length ≤ 3) ∧ ∀ i, i < xs.length → ∀ q ∈ (thOf xs).pt i, -6 ≤ q ∧ q < xs.length := by
  have key : ∀ i (hi : i < xs.length), (thOf xs).pt i = ptOf ((drI ns).getD i 0) i (szI ns) := fun i hi => by
    rw [(thOf_at hi).1, (hok i xs[i] (List.getElem?_eq_getElem hi)).2.1]
  refine ⟨fun i hi => by rw [key i hi]; exact ptOf_len, fun i hi q hq => ?_⟩
  rw [key i hi] at hq
  have := ptOf_bnd (szI_or ns) q hq
  omega
theorem map_range {α : Type} {β : Type} {xs : List α} {f : α → β} {g : Nat → β} (h : ∀ i (hi : i < xs.length), g i = f xs[i]) : xs.map f = (List.range xs.length).map g := by
  refine List.ext_getElem (by simp) fun i h1 h2 => ?_
  simp only [List.getElem_map, List.getElem_range]
  rw [h i (by simpa using h1)]
theorem kd_ok {ns : List Int} {xs : List It} {kl : Addr} {R : SH} (hok : ItOk ns xs) (hl : Cl.o kl (listP (xs.map fun x => .ref x.tu)) ∈ R) (hs : ∀ c ∈ kdS (kdOf kl xs) (thOf xs), c ∈ R) : KdOk (kdOf kl xs) (thOf xs) R := by
  refine ⟨?_, fun i hi => hs _ (kdS_tu hi), fun i hi => hs _ (kdS_pl hi), fun i hi => ?_⟩
  · rw [map_range (g := fun i => .ref ((kdOf kl xs).tu i)) (fun i hi => by simp [kdOf, List.getElem?_eq_getElem hi])] at hl
    exact hl
  · have hi : i < xs.length := hi
    have := (hok i xs[i] (List.getElem?_eq_getElem hi)).2.2
    simpa [kdOf, thOf, List.getElem?_eq_getElem hi] using this
theorem tl_ok {xs : List It} : (xs.map fun x => Value.ref x.ad) = (List.range (thOf xs).sz).map fun i => .ref ((thOf xs).ad i) :=
  map_range fun i hi => by simp [thOf, List.getElem?_eq_getElem hi]
theorem th_ok {w : World} {G h : Heap} {g : Array GenState} {τ ρ : SH} {t : Th} (O : Own w G h g (((List.range t.sz).map fun i => .o (t.ad i) (t.word w i)) ++ ρ)) (h1 : ∀ i, i < t.sz → (t.pt i).length ≤ 3) (h2 : ∀ i, i < t.sz → ∀ q ∈ t.pt i, -6 ≤ q ∧ q < t.sz) : t.Ok := by
  refine ⟨fun i j hi hj e => ?_, h1, h2, fun i hi => ?_⟩
  · have nd := O.nodup
    rw [List.map_append] at nd
    have nd := (List.nodup_append.mp nd).1
    rw [List.map_map] at nd
    have z := (List.getElem_inj (i := i) (j := j) (h₀ := by simpa using hi) (h₁ := by simpa using hj) nd).mp (by simp [Cl.key, e])
    exact z
  · obtain ⟨mm, hm, _⟩ := O.wf.noSeer.mods
    obtain ⟨o, _, _, ho, _⟩ := hm
    have hl := O.low (t.ad i) (t.word w i) (List.mem_append_left _ (List.mem_map.mpr ⟨i, List.mem_range.mpr hi, rfl⟩))
    have : t.ad i ≠ sysModules := fun e => by rw [e, ho] at hl; cases hl
    exact beq_false_of_ne this
end
end

-- NA
section
local macro_rules | `(tactic| walk_at "gl") => `(tactic| with_reducible first | exact g_names _ | exact g_words _ | exact g_walk _ | exact g_same _ | exact g_part _ | exact g_enc _)
local macro_rules | `(tactic| walk_at "bl") => `(tactic| with_reducible first | exact b_range | exact b_sum | exact b_next | exact b_enum)
local macro_rules | `(tactic| walk_at "subc") => `(tactic| (refine Subp.of_cnt fun _ => ?_; simp only [compEnvC, cstate, cnt_append, cnt_cons, cnt_nil, List.map_nil, List.map_cons, lawVs]; omega))
def thW (t : Th) (w : World) : SH := (List.range t.sz).map fun i => .o (t.ad i) (t.word w i)
def trn (ns : List Int) : Int := (rowsI ns).sum
def indOf (n : Int) : Option Str := if n = 0 then none else if n = 1 then some (Str.ofString "") else if n = 2 then some (Str.ofString "  ") else some (Str.ofString "\t")
theorem indOf_len {n : Int} : ∀ s, indOf n = some s → s.length ≤ 2 := by
  intro s h
  unfold indOf at h
  split at h
  · cases h
  · split at h
    · cases h; decide
    · split at h <;> (cases h; decide)
def rootI (ns : List Int) (k : Nat) : Int := if k = 1 then ((trn ns).fdiv 5).fmod (szI ns) else ((trn ns).fdiv 4).fmod (szI ns)
def leftI (ns : List Int) : Int := (trn ns).fmod 3
section
variable {B : Bx} {A : Around} {Ψ : Value → SH → Prop} {σ τ S R T : SH} {env : Env} {t : Th} {K : Kd}
theorem Sw.callKV {f : Value} {as : List Value} {kw : List (Str × Value)} {Φ : Value → SH → Prop} (x : Sc B A (.call f ⟨as, kw⟩) (fun r τ => ∃ v, r = .ok (.ret v) ∧ Φ v τ) σ) : Sw B A (PySem.call f as kw) Φ Ψ σ := fun h g d k O => wpAny_call (codeAny_mono (x h g d k O) fun r s q => by
  obtain ⟨τ, O, e, v, rfl, q⟩ := q
  exact ⟨τ, O, e, q⟩)
theorem Sw.e_Call_Kw1 {x name : Str} {np kp pos : Pos} {value : Expr} {Φ : Value → SH → Prop}
    (y : Sw B A (eval (.Name x np) env) (fun f τ => keepIn (KF B.w) f = true ∧ Sw B A (eval value env) (fun v τ => Sw B A (PySem.call f [] [(name, v)]) Φ Ψ τ) Ψ τ) Ψ σ) : Sw B A (eval (.Call (.Name x np) [] [⟨some name, value, kp⟩] pos) env) Φ Ψ σ := fun h g d k O => by
  show wpAny B.M A (do PySem.callWith pos (← eval (.Name x np) env) [] (backTo pos (starEach [] env)) (backToKw pos (keywordEach [⟨some name, value, kp⟩] env))) _ _ _
  refine wpAny_bind (wpAny_mono (y h g d k O) (fun f s q => ?_) fun _ _ q => q)
  obtain ⟨τ, O, e, hk, q⟩ := q
  obtain ⟨h, g, d, k, os⟩ := s
  cases e
  refine callWith_of rfl (keeps_K (K := KF B.w) hk) (evalArgs_kw2_nil rfl (kwAll_cons (wpAny_mono (q h g d k O) (fun v s q => kwAll_nil ?_) fun _ _ q => q)))
  obtain ⟨τ, O, e, q⟩ := q
  obtain ⟨h, g, d, k, os⟩ := s
  cases e
  exact ⟨x_kin O, q h g d k O⟩
theorem law_s5 {l r d kl tl : Addr} {ns : List Int} {ks : Tok} {parts iv xv : Option Value} {c1 c2 c3 c4 c5 c6 c7 : Addr} {Φ : Flow → SH → Prop} (E : EnvOk env lawKs lawFs) (GE : GlbOk env lawGs) (CK : CellOk env lawFs) (CE : env.cells = lawFs.zip [c1, c2, c3, c4, c5, c6, c7]) (hh : A.handled = none)
    (hsz : (t.sz : Int) = szI ns) (kok : KdOk K t σ) (mt : Cl.o tl (listP ((List.range t.sz).map fun i => .ref (t.ad i))) ∈ σ) (ht : t.tok = lawTok) (hl : ∀ i, i < t.sz → (t.pt i).length ≤ 3) (hlow : ∀ i, i < t.sz → ∀ q ∈ t.pt i, -6 ≤ q ∧ q < t.sz)
    (y : t.Ok → ∀ j part v iv, Sw B A (execs ((fnBody lawSt).drop 6) env) Φ NoE (.o env.locals (frameP lawKs (law4V l r d j parts part v)) ::
      lawCs c1 c2 c3 c4 c5 c6 c7 none none iv (some (.ref K.kl)) (some (.ref tl)) (some (.int (szI ns) ks)) xv (thW t B.w ++ σ))) :
    Sw B A (execs ((fnBody lawSt).drop 5) env) Φ NoE (.o env.locals (frameP lawKs (law4V l r d none parts none none)) ::
      lawCs c1 c2 c3 c4 c5 c6 c7 none none iv (some (.ref K.kl)) (some (.ref tl)) (some (.int (szI ns) ks)) xv (thS t B.w (fun _ => 0) ++ σ)) := by
  have hm3 : t.sz = 2 ∨ t.sz = 3 := by rcases szI_or ns with h | h <;> omega
  refine Sw.execs_cons (Sw.s_For ?_)
  refine Sw.e_Call_Name ?_
  walk_at "py"
  refine ⟨trivial, Sw.call_range fun rg => ?_⟩
  rw [← hsz]
  refine Sw.iter_range (n := (t.sz : Int)) (by omega) (by omega) (.tail _ (.head _)) fun it => ?_
  refine Sc.sub' (law5_outer (t := t) (K := K) (it := it) (l := l) (r := r) (d := d) (tl := tl) (σ := σ) (sv := some (.int (t.sz : Int) ks)) (xv := xv) (parts := parts) E GE CK CE hh kok mt ht (by omega) hl hlow (fun j part v iv ρ => ?_) t.sz 0 (by omega) none none none iv []) ?_
  · rw [thS_full]
    refine Sw.subp (τ := .o env.locals (frameP lawKs (law4V l r d j parts part v)) :: lawCs c1 c2 c3 c4 c5 c6 c7 none none iv (some (.ref K.kl)) (some (.ref tl)) (some (.int (t.sz : Int) ks)) xv (thW t B.w ++ σ)) ?_ (by unfold thW; walk_at "subc")
    refine Sw.look fun h g O => ?_
    have O1 : Own B.w B.G h g (((List.range t.sz).map fun i => .o (t.ad i) (t.word B.w i)) ++ σ) := O.sublist (.cons _ (.cons _ (.cons _ (.cons _ (.cons _ (.cons _ (.cons _ (.cons _ (.refl _)))))))))
    have z := y (th_ok (τ := []) O1 hl hlow) j part v iv
    rw [← hsz] at z
    exact z
  · have e0 : fil t 0 0 = fun _ => 0 := by funext k; unfold fil; rw [if_neg (Nat.not_lt_zero _)]; split <;> rfl
    rw [e0]
    simp only [Int.ofNat_zero, Int.natCast_zero, Int.sub_zero, List.nil_append]
    walk_at "subc"
end
end

-- NB
section
local macro_rules | `(tactic| walk_at "gl") => `(tactic| with_reducible first | exact g_names _ | exact g_words _ | exact g_walk _ | exact g_same _ | exact g_part _ | exact g_enc _)
local macro_rules | `(tactic| walk_at "bl") => `(tactic| with_reducible first | exact b_range | exact b_sum | exact b_next | exact b_enum)
def indI (ns : List Int) : Option Str := indOf ((trn ns).fmod 4)
section
variable {B : Bx} {A : Around} {Ψ : Value → SH → Prop} {σ τ S R T : SH} {env : Env} {t : Th} {K : Kd}
@[reducible] def law6V (l r d : Addr) (j parts part v : Option Value) (turn roots left : Option Value) : List (Option Value) := lawVs (some (.ref l)) (some (.ref r)) (some (.ref d)) j parts part v turn roots left none none none none none none none none none none none none
local macro_rules | `(tactic| walk_at "subc") => `(tactic| (refine Subp.of_cnt fun _ => ?_; simp only [compEnvC, cstate, cnt_append, cnt_cons, cnt_nil, List.map_nil, List.map_cons, lawVs, law4V, law6V]; omega))
theorem law_s6 {l r d kl tl : Addr} {rv : List Value} {ns : List Int} {ks : Tok} {j parts part v iv xv : Option Value} {c1 c2 c3 c4 c5 c6 c7 : Addr} {Φ : Flow → SH → Prop} (E : EnvOk env lawKs lawFs) (GE : GlbOk env lawGs) (CK : CellOk env lawFs) (CE : env.cells = lawFs.zip [c1, c2, c3, c4, c5, c6, c7]) (hh : A.handled = none)
    (mr : Cl.o r (listP rv) ∈ σ) (hr : IntsAre rv (rowsI ns))
    (y : ∀ kt ki kl' ro rov, IntsAre rov [rootI ns 0, rootI ns 1, rootI ns 2] → Sw B A (execs ((fnBody lawSt).drop 10) env) Φ NoE (.o env.locals (frameP lawKs (law6V l r d j parts part v (some (.int (trn ns) kt)) (some (.ref ro)) (some (.int (leftI ns) kl')))) ::
      lawCs c1 c2 c3 c4 c5 c6 c7 none (some (indV (indI ns) ki)) iv (some (.ref kl)) (some (.ref tl)) (some (.int (szI ns) ks)) xv (.o ro (listP rov) :: σ))) :
    Sw B A (execs ((fnBody lawSt).drop 6) env) Φ NoE (.o env.locals (frameP lawKs (law6V l r d j parts part v none none none)) ::
      lawCs c1 c2 c3 c4 c5 c6 c7 none none iv (some (.ref kl)) (some (.ref tl)) (some (.int (szI ns) ks)) xv σ) := by
  have hs0 : szI ns ≠ 0 := by rcases szI_or ns with h | h <;> omega
  refine Sw.execs_cons (Sw.s_Assign_Name ?_)
  walk_at "py"
  refine ⟨trivial, Sw.sumL hh (vs := rv) (.tail _ (.tail _ (.tail _ (.tail _ (.tail _ (.tail _ (.tail _ (.tail _ mr)))))))) hr fun kt => ?_⟩
  refine Sw.st E (NPut.tail (.tail (.tail (.tail (.tail (.tail (.tail .head))))))) ?_
  refine Sw.execs_cons (Sw.s_Assign_Name ?_)
  refine Sw.e_SubscriptA ?_
  refine Sw.e_Tuple (Args.cons (Sw.e_Const_none (Args.cons (Sw.e_Const_str fun k1 => Args.cons (Sw.e_Const_str fun k2 => Args.cons (Sw.e_Const_str fun k3 => Args.nil ⟨by show (4 : Nat) < 100000; decide, _, _, rfl, fun tp => ?_⟩))))))
  walk_at "py"
  refine Sw.modI (by decide) fun k4 => ?_
  have h1 := Int.fmod_nonneg_of_pos (trn ns) (b := 4) (by decide)
  have h2 := Int.fmod_lt_of_pos (trn ns) (b := 4) (by decide)
  obtain ⟨ki, hki⟩ : ∃ ki, ([.none, .str (Str.ofString "") k1, .str (Str.ofString "  ") k2, .str (Str.ofString "\t") k3] : List Value)[((trn ns).fmod 4).toNat]? = some (indV (indI ns) ki) := by
    unfold indI
    have hc : (trn ns).fmod 4 = 0 ∨ (trn ns).fmod 4 = 1 ∨ (trn ns).fmod 4 = 2 ∨ (trn ns).fmod 4 = 3 := by omega
    rcases hc with h | h | h | h <;> rw [h]
    · exact ⟨0, rfl⟩
    · exact ⟨k1, rfl⟩
    · exact ⟨k2, rfl⟩
    · exact ⟨k3, rfl⟩
  refine atT (vs := [.none, .str (Str.ofString "") k1, .str (Str.ofString "  ") k2, .str (Str.ofString "\t") k3]) (by walk_at "mem") h1 (by change (trn ns).fmod 4 < 1000; omega) hki ?_
  refine Sw.stC E CK CE (.tail .head) (u := none) (by walk_at "upd") ?_
  refine Sw.execs_cons (Sw.s_Assign_Name ?_)
  refine Sw.e_List (Args.cons ?_)
  walk_at "py"
  refine Sw.divI (by decide) (pylong5 (by decide)) fun q1 => ?_
  walk_at "py"
  refine Sw.modI hs0 fun q2 => ?_
  refine Args.cons ?_
  walk_at "py"
  refine Sw.divI (by decide) (pylong5 (by decide)) fun q3 => ?_
  walk_at "py"
  refine Sw.modI hs0 fun q4 => ?_
  refine Args.cons ?_
  walk_at "py"
  refine Sw.divI (by decide) (pylong5 (by decide)) fun q5 => ?_
  walk_at "py"
  refine Sw.modI hs0 fun q6 => ?_
  refine Args.nil ⟨by show (3 : Nat) < 100000; decide, _, _, rfl, fun ro => ?_⟩
  refine Sw.st E (NPut.tail (.tail (.tail (.tail (.tail (.tail (.tail (.tail .head)))))))) ?_
  refine Sw.execs_cons (Sw.s_Assign_Name ?_)
  walk_at "py"
  refine Sw.modI (by decide) fun q7 => ?_
  refine Sw.st E (NPut.tail (.tail (.tail (.tail (.tail (.tail (.tail (.tail (.tail .head))))))))) ?_
  refine Sw.subp (y kt ki q7 ro [.int (rootI ns 0) q2, .int (rootI ns 1) q4, .int (rootI ns 2) q6] (.cons _ _ (.cons _ _ (.cons _ _ .nil)))) ?_
  have e0 : rootI ns 0 = ((trn ns).fdiv 4).fmod (szI ns) := rfl
  have e1 : rootI ns 1 = ((trn ns).fdiv 5).fmod (szI ns) := rfl
  have e2 : rootI ns 2 = ((trn ns).fdiv 4).fmod (szI ns) := rfl
  rw [e0, e1, e2]
  simp only [leftI, trn]
  walk_at "subc"
theorem law_s10 {l r d kl tl : Addr} {ns : List Int} {ki ks : Tok} {fr : List (Option Value)} {iv xv : Option Value} {c1 c2 c3 c4 c5 c6 c7 : Addr} {Φ : Flow → SH → Prop} (E : EnvOk env lawKs lawFs) (GE : GlbOk env lawGs) (CK : CellOk env lawFs) (CE : env.cells = lawFs.zip [c1, c2, c3, c4, c5, c6, c7]) (hh : A.handled = none) (hr : Roomy A 4)
    (y : ∀ x dx sep, (indI ns = none → sep = none) → (indI ns ≠ none → ∃ t, sep = some (.str (Str.ofString ",") t)) → Sw B A (execs ((fnBody lawSt).drop 11) env) Φ NoE (.o env.locals (frameP lawKs fr) ::
      lawCs c1 c2 c3 c4 c5 c6 c7 (some (.ref x)) (some (indV (indI ns) ki)) iv (some (.ref kl)) (some (.ref tl)) (some (.int (szI ns) ks)) xv (.o x (eqP (instO 125 dx)) :: .o dx (frameP jeKs (jeVs (indV (indI ns) ki) sep)) :: σ))) :
    Sw B A (execs ((fnBody lawSt).drop 10) env) Φ NoE (.o env.locals (frameP lawKs fr) ::
      lawCs c1 c2 c3 c4 c5 c6 c7 none (some (indV (indI ns) ki)) iv (some (.ref kl)) (some (.ref tl)) (some (.int (szI ns) ks)) xv σ) := by
  refine Sw.execs_cons (Sw.s_Assign_Name ?_)
  refine Sw.e_Call_Kw1 ?_
  walk_at "py"
  refine ⟨by kernel_rfl, ?_⟩
  walk_at "py"
  refine Sw.callKV (mk_enc ?_ hh hr fun x dx sep h1 h2 => ⟨_, rfl, ?_⟩)
  · cases indI ns with
    | none => exact .n
    | some s => exact .s
  · refine Sw.stC E CK CE .head (u := none) (by walk_at "upd") ?_
    refine Sw.subp (y x dx sep (fun h => h1 (by rw [h]; rfl)) (fun h => h2 ?_)) (by walk_at "subc")
    cases hi : indI ns with
    | none => exact absurd hi h
    | some s => exact ⟨s, ki, rfl⟩
end
end

-- NC
section
local macro_rules | `(tactic| walk_at "gl") => `(tactic| with_reducible first | exact g_names _ | exact g_words _ | exact g_walk _ | exact g_same _ | exact g_part _ | exact g_enc _)
local macro_rules | `(tactic| walk_at "bl") => `(tactic| with_reducible first | exact b_range | exact b_sum | exact b_next | exact b_enum)
local macro_rules | `(tactic| walk_at "subc") => `(tactic| (refine Subp.of_cnt fun _ => ?_; simp only [compEnvC, cstate, cnt_append, cnt_cons, cnt_nil, List.map_nil, List.map_cons, lawVs, law4V, law6V]; omega))
structure Run where
  q : Addr
  n : Nat
  e : EC
  gs : GenState
  pr : SH
  dn : List Str
  rem : List Str
  ring : Bool
  en : Nat
def Run.live (r : Run) : SH := if r.en = 0 then .g r.n r.gs :: r.pr else []
def Run.cells (r : Run) : SH := .o r.q (genP r.n) :: (ecS r.e ++ r.live)
def runsS (rs : List Run) : SH := rs.flatMap Run.cells
def Full (S : SH) : Prop := ∃ cd tb, TabOk cd tb ∧ S = cdS cd tb
theorem Grow.same {S S' : SH} (h : Grow S S') (hf : Full S) : S' = S := by
  rcases h with ⟨h1, _⟩ | ⟨_, _, _, _, h⟩
  · obtain ⟨cd, tb, _, h2⟩ := hf
    rw [h1] at h2
    have := congrArg List.length h2
    simp [cdS] at this
  · exact h
structure RunOk (B : Bx) (t : Th) (S : SH) (ps : List Str) (ring : Bool) (r : Run) : Prop where
  ps : r.dn ++ r.rem = ps
  ring : r.ring = ring
  live : r.en = 0 → Pend B I73 (ecS r.e ++ (S ++ thW t B.w)) 40 r.ring [] r.rem r.gs r.pr
  en1 : r.en = 1 → r.ring = false ∧ r.rem = []
  en2 : r.en = 2 → r.ring = true ∧ r.rem = []
  en : r.en ≤ 2
def lcRuns : Expr := asgVal (lawAt 11)
@[reducible] def rcFs : List Str := ["writer", "things"]
theorem runs_comp {env : Env} {c1 c2 c3 c4 c5 c6 c7 : Addr} (hs : env.scope = fnScope lawSt) (CE : env.cells = lawFs.zip [c1, c2, c3, c4, c5, c6, c7]) : CompOk env (lcScope lcRuns) (rcFs.zip [c1, c5]) ["r"] rcFs :=
  CompOk.of hs (by unfold closureFor cellOf; rw [CE]; rfl) (by decide +kernel)
def rootN (ns : List Int) (k : Nat) : Nat := (rootI ns k).toNat
theorem root_bnd {ns : List Int} {k : Nat} : 0 ≤ rootI ns k ∧ rootI ns k < szI ns := by
  have h0 := szI_or ns
  unfold rootI
  split
  · exact ⟨Int.fmod_nonneg_of_pos _ (by omega), Int.fmod_lt_of_pos _ (by omega)⟩
  · exact ⟨Int.fmod_nonneg_of_pos _ (by omega), Int.fmod_lt_of_pos _ (by omega)⟩
theorem root_lt {ns : List Int} {k m : Nat} (h : (m : Int) = szI ns) : rootN ns k < m := by
  have := root_bnd (ns := ns) (k := k)
  unfold rootN; omega
abbrev tolds (t : Th) (ns : List Int) (i : Nat) : List Str × Bool := told t (indI ns) 4 i 0 []
section
variable {B : Bx} {A : Around} {Ψ : Value → SH → Prop} {σ τ S R T : SH} {env : Env} {t : Th} {K : Kd}
theorem runsS_snoc {rs : List Run} {r : Run} : runsS (rs ++ [r]) = runsS rs ++ r.cells := by
  unfold runsS; rw [List.flatMap_append, List.flatMap_cons, List.flatMap_nil, List.append_nil]
theorem law_s11 {kl tl ro x dx : Addr} {rov : List Value} {ns : List Int} {ki ks : Tok} {sep : Option Value} {fr : List (Option Value)} {fr' : Addr → List (Option Value)} {iv xv : Option Value} {c1 c2 c3 c4 c5 c6 c7 : Addr} {Φ : Flow → SH → Prop} (E : EnvOk env lawKs lawFs) (hs : env.scope = fnScope lawSt) (CE : env.cells = lawFs.zip [c1, c2, c3, c4, c5, c6, c7]) (hh : A.handled = none) (hr : Roomy A 6)
    (hn : NAt (Str.ofString "roots") (.ref ro) lawKs fr) (hp : ∀ a, NPut (Str.ofString "runs") (.ref a) lawKs fr (fr' a))
    (hrv : IntsAre rov [rootI ns 0, rootI ns 1, rootI ns 2]) (mro : Cl.o ro (listP rov) ∈ σ)
    (mx : Cl.o x (eqP (instO 125 dx)) ∈ σ) (md : Cl.o dx (frameP jeKs (jeVs (indV (indI ns) ki) sep)) ∈ σ) (hs1 : indI ns = none → sep = none) (hs2 : indI ns ≠ none → ∃ t, sep = some (.str (Str.ofString ",") t))
    (to : t.Ok) (hsz : (t.sz : Int) = szI ns) (mt : Cl.o tl (listP ((List.range t.sz).map fun i => .ref (t.ad i))) ∈ σ)
    (y : ∀ ru rs S, rs.length = 3 → Full S → (∀ k r, rs[k]? = some r → RunOk B t S (tolds t ns (rootN ns k)).1 (tolds t ns (rootN ns k)).2 r ∧ r.en = 0 ∧ r.dn = []) → Sw B A (execs ((fnBody lawSt).drop 12) env) Φ NoE (.o env.locals (frameP lawKs (fr' ru)) ::
      lawCs c1 c2 c3 c4 c5 c6 c7 (some (.ref x)) (some (indV (indI ns) ki)) iv (some (.ref kl)) (some (.ref tl)) (some (.int (szI ns) ks)) xv (.o ru (listP (rs.map fun r => .ref r.q)) :: (S ++ (runsS rs ++ (thW t B.w ++ σ)))))) :
    Sw B A (execs ((fnBody lawSt).drop 11) env) Φ NoE (.o env.locals (frameP lawKs fr) ::
      lawCs c1 c2 c3 c4 c5 c6 c7 (some (.ref x)) (some (indV (indI ns) ki)) iv (some (.ref kl)) (some (.ref tl)) (some (.int (szI ns) ks)) xv (.o 181 (eqP (tabObj #[])) :: (thW t B.w ++ σ))) := by
  have hsz3 : t.sz ≤ 3 := by rcases szI_or ns with h | h <;> omega
  have hrl : rov.length = 3 := by rw [hrv.length]; rfl
  refine Sw.execs_cons (Sw.s_Assign_Comp (runs_comp hs CE) E ?_)
  refine Sw.ld E hn ?_
  refine Sw.iter_list (vs := rov) (.tail _ (.tail _ (.tail _ (.tail _ (.tail _ (.tail _ (.tail _ (.tail _ (.tail _ (List.mem_append_right _ mro)))))))))) fun it => ?_
  intro acc C
  refine ⟨Sw.iter_li (l := ro) (i := 0) (by walk_at "mem") ⟨rfl, rfl⟩, ?_⟩
  have EC := (runs_comp hs CE).env C
  have CC : (compEnvC (lcScope lcRuns) (rcFs.zip [c1, c5]) C env).cells = rcFs.zip [c1, c5] := rfl
  generalize hce : compEnvC (lcScope lcRuns) (rcFs.zip [c1, c5]) C env = cenv at EC CC
  have hC : C = cenv.locals := by rw [← hce]; rfl
  refine Sc.sub' (τ := .o cenv.locals (frameP ["r"] [none]) :: .o it (liP ro 0) :: .o acc (listP []) :: .o env.locals (frameP lawKs fr) :: lawCs c1 c2 c3 c4 c5 c6 c7 (some (.ref x)) (some (indV (indI ns) ki)) iv (some (.ref kl)) (some (.ref tl)) (some (.int (szI ns) ks)) xv ([.o 181 (eqP (tabObj #[]))] ++ (runsS [] ++ (thW t B.w ++ σ)))) ?_ (by rw [← hC]; simp only [runsS, List.flatMap_nil]; walk_at "subc")
  show Sc B A (.compLoop (lcOf lcRuns) 0 (.ref it) (.ref acc) (compEnvC (lcScope lcRuns) (rcFs.zip [c1, c5]) C env)) _ _
  rw [hce]
  refine Sc.compL (l := ro) (vs := rov) EC hh (by omega) (fun i ws ρ => ∃ rs S, rs.length = i ∧ ws = rs.map (fun r => .ref r.q) ∧ I181 S ∧ (0 < i → Full S) ∧ (∀ k r, rs[k]? = some r → RunOk B t S (tolds t ns (rootN ns k)).1 (tolds t ns (rootN ns k)).2 r ∧ r.en = 0 ∧ r.dn = []) ∧
      ρ = .o env.locals (frameP lawKs fr) :: lawCs c1 c2 c3 c4 c5 c6 c7 (some (.ref x)) (some (indV (indI ns) ki)) iv (some (.ref kl)) (some (.ref tl)) (some (.int (szI ns) ks)) xv (S ++ (runsS rs ++ (thW t B.w ++ σ))))
    (fun i ws ρ h => by
      obtain ⟨rs, S, h1, rfl, _, _, _, rfl⟩ := h
      exact ⟨.tail _ (.tail _ (.tail _ (.tail _ (.tail _ (.tail _ (.tail _ (.tail _ (List.mem_append_right _ (List.mem_append_right _ (List.mem_append_right _ mro)))))))))), by simpa using h1⟩) (fun i v ws ρ hv hJ => ?_) (fun ws ρ u hJ => ?_) 3 0 [] _ none (by omega) ⟨[], _, rfl, rfl, .inl rfl, fun h => absurd h (Nat.lt_irrefl _), fun k r h => by simp at h, rfl⟩
  · obtain ⟨rs, S, h1, rfl, hS, hF, hR, rfl⟩ := hJ
    have hi3 : i < 3 := by rw [← hrl]; exact (List.getElem?_eq_some_iff.mp hv).1
    obtain ⟨kv, hkv⟩ := Mine.IntsAre.get hrv (i := i) (n := rootI ns i) (by
      match i, hi3 with
      | 0, _ => rfl
      | 1, _ => rfl
      | 2, _ => rfl)
    rw [hkv] at hv
    cases hv
    have hb := root_bnd (ns := ns) (k := i)
    have hrt := root_lt (k := i) hsz
    have er : ((rootN ns i : Nat) : Int) = rootI ns i := by unfold rootN; omega
    refine Sw.shrinkN ?_
    show Sw B A (eval (.Call (.Attribute _ _ _) _ [] _) cenv) _ _ _
    refine Sw.e_Call_Own ?_
    refine Sw.ldc EC CC .head (v := .ref x) (.tail _ (.tail _ (.tail _ (.tail _ (.head _))))) ?_
    refine' Sw.getMethod_inst (C := 125) (f := 122) ?gx ?gd (enc_pg _ _) ?ga ?gb ?gno ?_
    case gx => exact .tail _ (.tail _ (.tail _ (.tail _ (.tail _ (.tail _ (.tail _ (.tail _ (.tail _ (.tail _ (.tail _ (List.mem_append_right _ (List.mem_append_right _ (List.mem_append_right _ mx)))))))))))))
    case gd => exact .tail _ (.tail _ (.tail _ (.tail _ (.tail _ (.tail _ (.tail _ (.tail _ (.tail _ (.tail _ (.tail _ (List.mem_append_right _ (List.mem_append_right _ (List.mem_append_right _ md)))))))))))))
    case ga => kernel_rfl
    case gb => kernel_rfl
    case gno => exact .tail (.tail (.tail (.tail (.tail (.tail (.tail (.tail (.tail (.tail (.tail (.tail (.tail .head))))))))))))
    refine ⟨rfl, (fun _ h => by cases h), ?_⟩
    refine Args.cons ?_
    show Sw B A (eval (.Subscript (.Name _ _) (.Name _ _) _) cenv) _ _ _
    refine Sw.e_SubscriptA ?_
    refine Sw.ldc EC CC (.tail .head) (v := .ref tl) (.tail _ (.tail _ (.tail _ (.tail _ (.tail _ (.tail _ (.tail _ (.tail _ (.head _))))))))) ?_
    refine Sw.ld EC .head ?_
    refine atL (vs := (List.range t.sz).map fun i => .ref (t.ad i)) (.tail _ (.tail _ (.tail _ (.tail _ (.tail _ (.tail _ (.tail _ (.tail _ (.tail _ (.tail _ (.tail _ (List.mem_append_right _ (List.mem_append_right _ (List.mem_append_right _ mt)))))))))))))) hb.1 (by rcases szI_or ns with h | h <;> omega) (v := .ref (t.ad (rootN ns i))) (by show ((List.range t.sz).map fun i => Value.ref (t.ad i))[rootN ns i]? = _; simp [hrt]) ?_
    refine Args.nil ⟨callee_K rfl rfl, ?_⟩
    refine Sw.subp (τ := .o cenv.locals (frameP ["r"] [some (.int (rootI ns i) kv)]) :: (S ++ (.o it (liP ro (i + 1)) :: .o acc (listP (rs.map fun r => .ref r.q)) :: .o env.locals (frameP lawKs fr) :: lawCs c1 c2 c3 c4 c5 c6 c7 (some (.ref x)) (some (indV (indI ns) ki)) iv (some (.ref kl)) (some (.ref tl)) (some (.int (szI ns) ks)) xv (runsS rs ++ (thW t B.w ++ σ))))) ?_ (by walk_at "subc")
    have hm : ∀ c ∈ σ, c ∈ Cl.o cenv.locals (frameP ["r"] [some (.int (rootI ns i) kv)]) :: (.o it (liP ro (i + 1)) :: .o acc (listP (rs.map fun r => .ref r.q)) :: .o env.locals (frameP lawKs fr) :: lawCs c1 c2 c3 c4 c5 c6 c7 (some (.ref x)) (some (indV (indI ns) ki)) iv (some (.ref kl)) (some (.ref tl)) (some (.int (szI ns) ks)) xv (runsS rs ++ (thW t B.w ++ σ))) :=
      fun c hc => .tail _ (.tail _ (.tail _ (.tail _ (.tail _ (.tail _ (.tail _ (.tail _ (.tail _ (.tail _ (.tail _ (List.mem_append_right _ (List.mem_append_right _ hc))))))))))))
    refine iter_call (x := x) (dx := dx) (ki := ki) (ind := indI ns) (sep := sep) (hm _ mx) (hm _ md) hs1 hs2 (indOf_len) hS (hr.le (by omega)) fun e n q L k S' eo hgr gr => ?_
    have hfull : Full S' := hgr.full
    have hSS : 0 < i → S' = S := fun hi => hgr.same (hF hi)
    have W : Wk e t B.w (ecS e ++ (S' ++ thW t B.w)) := ⟨gr.mono fun c hc => by
      rcases List.mem_append.mp hc with hc | hc
      · exact List.mem_append_left _ hc
      · exact List.mem_append_right _ (List.mem_append_left _ hc), fun j hj => List.mem_append_right _ (List.mem_append_right _ (List.mem_map.mpr ⟨j, List.mem_range.mpr hj, rfl⟩))⟩
    have em := root_emits (L := L) (k := k) W eo to hsz3 hrt
    simp only [refs, List.map_nil] at em
    let r1 : Run := { q := q, n := n, e := e, gs := .fresh (.func (fnBody (mkSt 4)) (envF (e.fd 4) L (e.fn 4))), pr := [.o L (frameP itKs (itVs (.ref (t.ad (rootN ns i))) k none)), .o e.m (listP [])], dn := [], rem := (tolds t ns (rootN ns i)).1, ring := (tolds t ns (rootN ns i)).2, en := 0 }
    have hr1 : RunOk B t S' (tolds t ns (rootN ns i)).1 (tolds t ns (rootN ns i)).2 r1 := ⟨rfl, rfl, fun _ => ⟨_, _, _, .inl ⟨rfl, rfl, rfl⟩, em⟩, (fun h => by cases h), (fun h => by cases h), Nat.zero_le _⟩
    refine ⟨_, .refl _, .o env.locals (frameP lawKs fr) :: lawCs c1 c2 c3 c4 c5 c6 c7 (some (.ref x)) (some (indV (indI ns) ki)) iv (some (.ref kl)) (some (.ref tl)) (some (.int (szI ns) ks)) xv (S' ++ (runsS (rs ++ [r1]) ++ (thW t B.w ++ σ))), ?_, rs ++ [r1], S', by simp [h1], by simp [r1], hgr.ok, fun _ => hfull, fun k' r hk => ?_, rfl⟩
    · rw [runsS_snoc]
      simp only [Run.cells, Run.live, r1]
      rw [if_pos trivial]
      walk_at "subc"
    · rcases Nat.lt_or_ge k' rs.length with hk' | hk'
      · rw [List.getElem?_append_left hk'] at hk
        have := hR k' r hk
        rw [hSS (by omega)]
        exact this
      · rw [List.getElem?_append_right hk'] at hk
        have e0 : k' - rs.length = 0 := by
          cases hz : k' - rs.length with
          | zero => rfl
          | succ m => rw [hz] at hk; simp at hk
        rw [e0] at hk
        have hk : r1 = r := by simpa using hk
        have ek : k' = i := by omega
        rw [← hk, ek]
        exact ⟨hr1, rfl, rfl⟩
  · obtain ⟨rs, S, h1, rfl, hS, hF, hR, rfl⟩ := hJ
    rw [hrl] at h1 hF
    refine ⟨rfl, [u], fr, _, .o acc (listP (rs.map fun r => .ref r.q)) :: lawCs c1 c2 c3 c4 c5 c6 c7 (some (.ref x)) (some (indV (indI ns) ki)) iv (some (.ref kl)) (some (.ref tl)) (some (.int (szI ns) ks)) xv (S ++ (runsS rs ++ (thW t B.w ++ σ))), (by rw [hC]; walk_at "subc"), hp acc, ?_⟩
    exact Sw.subp (y acc rs S h1 (hF (by decide)) hR) (by walk_at "subc")
end
end

-- ND
section
local macro_rules | `(tactic| walk_at "gl") => `(tactic| with_reducible first | exact g_names _ | exact g_words _ | exact g_walk _ | exact g_same _ | exact g_part _ | exact g_enc _)
local macro_rules | `(tactic| walk_at "bl") => `(tactic| with_reducible first | exact b_range | exact b_sum | exact b_next | exact b_enum)
local macro_rules | `(tactic| walk_at "subc") => `(tactic| (refine Subp.of_cnt fun _ => ?_; simp only [compEnvC, cstate, cnt_append, cnt_cons, cnt_nil, List.map_nil, List.map_cons, lawVs, law4V, law6V]; omega))
structure Ord where
  ad : Addr
  r : Int
  s : Int
  k1 : Tok
  k2 : Tok
def ordC (os : List Ord) : SH := os.map fun o => .o o.ad (tupP [.int o.r o.k1, .int o.s o.k2])
def Ord.rs (o : Ord) : Int × Int := (o.r, o.s)
def ord1 (x : Int) : Int × Int := ((x.fdiv 2).fmod 3, 1 + x.fmod 4)
def ordI (ns : List Int) : List (Int × Int) := (rowsI ns).map ord1 ++ [((leftI ns + 1).fmod 3, 400), ((leftI ns + 2).fmod 3, 400)]
def binL : Expr → Expr
  | .BinOp l _ _ _ => l
  | _ => default
def lcOrd : Expr := binL (asgVal (lawAt 15))
theorem ord_comp {env : Env} (hs : env.scope = fnScope lawSt) : CompOk env (lcScope lcOrd) [] ["x"] [] :=
  CompOk.of hs (by unfold closureFor; rfl) (by decide +kernel)
section
variable {B : Bx} {A : Around} {Ψ : Value → SH → Prop} {σ τ S R T : SH} {env : Env} {t : Th} {K : Kd}
theorem law_s12 {fr : List (Option Value)} {f1 : Addr → List (Option Value)} {f2 : Addr → Addr → List (Option Value)} {f3 : Addr → Addr → Addr → List (Option Value)} {Φ : Flow → SH → Prop} (E : EnvOk env lawKs lawFs)
    (h1 : ∀ a, NPut (Str.ofString "told") (.ref a) lawKs fr (f1 a)) (h2 : ∀ a b, NPut (Str.ofString "ended") (.ref b) lawKs (f1 a) (f2 a b)) (h3 : ∀ a b c, NPut (Str.ofString "given") (.ref c) lawKs (f2 a b) (f3 a b c))
    (y : ∀ to en gi k1 k2 k3 e1 e2 e3 g1 g2 g3, Sw B A (execs ((fnBody lawSt).drop 15) env) Φ NoE (.o env.locals (frameP lawKs (f3 to en gi)) :: .o to (listP [.str (Str.ofString "") k1, .str (Str.ofString "") k2, .str (Str.ofString "") k3]) :: .o en (listP [.int 0 e1, .int 0 e2, .int 0 e3]) :: .o gi (listP [.int 0 g1, .int 0 g2, .int 0 g3]) :: σ)) :
    Sw B A (execs ((fnBody lawSt).drop 12) env) Φ NoE (.o env.locals (frameP lawKs fr) :: σ) := by
  refine Sw.execs_cons (Sw.s_Assign_Name ?_)
  refine Sw.e_List (Args.cons (Sw.e_Const_str fun k1 => Args.cons (Sw.e_Const_str fun k2 => Args.cons (Sw.e_Const_str fun k3 => Args.nil ⟨by show (3 : Nat) < 100000; decide, _, _, rfl, fun to => ?_⟩))))
  refine Sw.st E (h1 to) ?_
  refine Sw.execs_cons (Sw.s_Assign_Name ?_)
  refine Sw.e_List (Args.cons (Sw.e_Const_int fun e1 => Args.cons (Sw.e_Const_int fun e2 => Args.cons (Sw.e_Const_int fun e3 => Args.nil ⟨by show (3 : Nat) < 100000; decide, _, _, rfl, fun en => ?_⟩))))
  refine Sw.st E (h2 to en) ?_
  refine Sw.execs_cons (Sw.s_Assign_Name ?_)
  refine Sw.e_List (Args.cons (Sw.e_Const_int fun g1 => Args.cons (Sw.e_Const_int fun g2 => Args.cons (Sw.e_Const_int fun g3 => Args.nil ⟨by show (3 : Nat) < 100000; decide, _, _, rfl, fun gi => ?_⟩))))
  refine Sw.st E (h3 to en gi) ?_
  exact Sw.subp (y to en gi k1 k2 k3 e1 e2 e3 g1 g2 g3) (by walk_at "subp")
theorem law_s15 {r : Addr} {rv : List Value} {ns : List Int} {kl : Tok} {fr : List (Option Value)} {fr' : Addr → List (Option Value)} {Φ : Flow → SH → Prop} (E : EnvOk env lawKs lawFs) (hs : env.scope = fnScope lawSt) (hh : A.handled = none)
    (hn : NAt (Str.ofString "rows") (.ref r) lawKs fr) (hnl : NAt (Str.ofString "left") (.int (leftI ns) kl) lawKs fr) (hp : ∀ a, NPut (Str.ofString "order") (.ref a) lawKs fr (fr' a)) (mr : Cl.o r (listP rv) ∈ σ) (hr : IntsAre rv (rowsI ns))
    (y : ∀ ol os, os.map Ord.rs = ordI ns → Sw B A (execs ((fnBody lawSt).drop 16) env) Φ NoE (.o env.locals (frameP lawKs (fr' ol)) :: .o ol (listP (os.map fun o => .ref o.ad)) :: (ordC os ++ σ))) :
    Sw B A (execs ((fnBody lawSt).drop 15) env) Φ NoE (.o env.locals (frameP lawKs fr) :: σ) := by
  have hrl : rv.length ≤ 18 := by rw [hr.length]; unfold rowsI; simp; omega
  refine Sw.execs_cons (Sw.s_Assign_Name (Sw.e_BinOp ?_))
  refine Sw.listComp (ord_comp hs) ?_
  refine Sw.ld E hn ?_
  refine Sw.iter_list (vs := rv) (.tail _ mr) fun it => ?_
  intro acc C
  refine ⟨Sw.iter_li (l := r) (i := 0) (by walk_at "mem") ⟨rfl, rfl⟩, ?_⟩
  have EC := (ord_comp hs).env C
  generalize hce : compEnvC (lcScope lcOrd) [] C env = cenv at EC
  have hC : C = cenv.locals := by rw [← hce]; rfl
  refine Sc.sub' (τ := .o cenv.locals (frameP ["x"] [none]) :: .o it (liP r 0) :: .o acc (listP []) :: (ordC [] ++ (.o env.locals (frameP lawKs fr) :: σ))) ?_ (by rw [← hC]; simp only [ordC, List.map_nil]; walk_at "subc")
  show Sc B A (.compLoop (lcOf lcOrd) 0 (.ref it) (.ref acc) (compEnvC (lcScope lcOrd) [] C env)) _ _
  rw [hce]
  refine Sc.compL (l := r) (vs := rv) EC hh (by omega) (fun i ws ρ => ∃ os, os.length = i ∧ ws = os.map (fun o => .ref o.ad) ∧ os.map Ord.rs = ((rowsI ns).take i).map ord1 ∧ ρ = ordC os ++ (.o env.locals (frameP lawKs fr) :: σ))
    (fun i ws ρ h => by
      obtain ⟨os, h1, rfl, _, rfl⟩ := h
      exact ⟨List.mem_append_right _ (.tail _ mr), by simpa using h1⟩) (fun i v ws ρ hv hJ => ?_) (fun ws ρ u hJ => ?_) rv.length 0 [] _ none (by omega) ⟨[], rfl, rfl, rfl, rfl⟩
  · obtain ⟨os, h1, rfl, ho, rfl⟩ := hJ
    have hi : i < rv.length := (List.getElem?_eq_some_iff.mp hv).1
    have hi2 : i < (rowsI ns).length := by rw [← hr.length]; exact hi
    obtain ⟨kv, hkv⟩ := Mine.IntsAre.get hr (i := i) (n := (rowsI ns)[i]) (List.getElem?_eq_getElem hi2)
    rw [hkv] at hv
    cases hv
    refine Sw.shrinkN ?_
    show Sw B A (eval (.Tuple _ _ _) cenv) _ _ _
    refine Sw.e_Tuple (Args.cons ?_)
    walk_at "py"
    refine Sw.divI (by decide) (pylong5 (by decide)) fun q1 => ?_
    walk_at "py"
    refine Sw.modI (by decide) fun q2 => ?_
    walk_at "py"
    refine Sw.modI (by decide) fun q3 => ?_
    refine Sw.addI fun q4 => ?_
    refine Args.nil ⟨by show (2 : Nat) < 100000; decide, _, _, rfl, fun a => ?_⟩
    refine ⟨_, .refl _, ordC (os ++ [⟨a, ((rowsI ns)[i].fdiv 2).fmod 3, 1 + (rowsI ns)[i].fmod 4, q2, q4⟩]) ++ (.o env.locals (frameP lawKs fr) :: σ), ?_, os ++ [⟨a, ((rowsI ns)[i].fdiv 2).fmod 3, 1 + (rowsI ns)[i].fmod 4, q2, q4⟩], by simp [h1], by simp, ?_, rfl⟩
    · simp only [ordC, List.map_append, List.map_cons, List.map_nil]
      walk_at "subc"
    · rw [List.map_append, ho, List.take_add_one, List.getElem?_eq_getElem hi2, List.map_append]
      rfl
  · obtain ⟨os, h1, rfl, ho, rfl⟩ := hJ
    rw [hr.length, List.take_length] at ho
    refine ⟨rfl, [u], .o env.locals (frameP lawKs fr) :: .o acc (listP (os.map fun o => .ref o.ad)) :: (ordC os ++ σ), (by rw [hC]; walk_at "subc"), ?_⟩
    refine Sw.e_List (Args.cons (Sw.e_Tuple (Args.cons (Sw.e_BinOp (Sw.e_BinOp (Sw.ld E hnl (Sw.e_Const_int fun q1 => Sw.addI fun q2 => Sw.e_Const_int fun q3 => Sw.modI (by decide) fun q4 => Args.cons (Sw.e_Const_int fun q5 => Args.nil ⟨by show (2 : Nat) < 100000; decide, _, _, rfl, fun a => ?_⟩))))))))
    refine Args.cons (Sw.e_Tuple (Args.cons (Sw.e_BinOp (Sw.e_BinOp (Sw.ld E hnl (Sw.e_Const_int fun p1 => Sw.addI fun p2 => Sw.e_Const_int fun p3 => Sw.modI (by decide) fun p4 => Args.cons (Sw.e_Const_int fun p5 => Args.nil ⟨by show (2 : Nat) < 100000; decide, _, _, rfl, fun b => ?_⟩)))))))
    refine Args.nil ⟨by show (2 : Nat) < 100000; decide, _, _, rfl, fun l2 => ?_⟩
    refine Sw.addL (vs := os.map fun o => .ref o.ad) (ws := [.ref a, .ref b]) (by walk_at "mem") (.tail _ (.head _)) ?_ fun ol => ?_
    · have e1 : os.length = rv.length := h1
      simp; omega
    refine Sw.st E (hp ol) ?_
    have z := y ol (os ++ [⟨a, (leftI ns + 1).fmod 3, 400, q4, q5⟩, ⟨b, (leftI ns + 2).fmod 3, 400, p4, p5⟩]) (by rw [List.map_append, ho]; rfl)
    refine Sw.subp z ?_
    rw [List.map_append]
    simp only [ordC, List.map_append, List.map_cons, List.map_nil]
    walk_at "subc"
end
end

-- NE
section
local macro_rules | `(tactic| walk_at "gl") => `(tactic| with_reducible first | exact g_names _ | exact g_words _ | exact g_walk _ | exact g_same _ | exact g_part _ | exact g_enc _)
local macro_rules | `(tactic| walk_at "bl") => `(tactic| with_reducible first | exact b_range | exact b_sum | exact b_next | exact b_enum | exact b_Stop | exact b_VE)
def catS (ps : List Str) : Str := ps.foldl (· ++ ·) (Str.ofString "")
theorem catS_snoc (ps : List Str) (p : Str) : catS (ps ++ [p]) = catS ps ++ p := by unfold catS; rw [List.foldl_append]; rfl
theorem cat_len (ps : List Str) : ∀ a : Str, (ps.foldl (· ++ ·) a).length = a.length + (ps.map Str.length).sum := by
  induction ps with
  | nil => intro a; simp
  | cons p ps ih => intro a; rw [List.foldl_cons, ih, str_len, List.map_cons, List.sum_cons]; omega
theorem catS_len (ps : List Str) : (catS ps).length = (ps.map Str.length).sum := by
  unfold catS
  rw [cat_len]
  have : (Str.ofString "").length = 0 := by decide
  omega
def liveS (rs : List Run) : SH := rs.flatMap Run.live
def consS (rs : List Run) : SH := rs.flatMap fun r => .o r.q (genP r.n) :: ecS r.e
theorem liveS_mid {pre post : List Run} {r : Run} : liveS (pre ++ r :: post) = liveS pre ++ (r.live ++ liveS post) := by unfold liveS; rw [List.flatMap_append, List.flatMap_cons]
structure Vals (rs : List Run) (tv ev gv : List Value) : Prop where
  tl : tv.length = rs.length
  el : ev.length = rs.length
  gl : gv.length = rs.length
  t : ∀ (k : Nat) (r : Run), rs[k]? = some r → ∃ tk, tv[k]? = some (.str (catS r.dn) tk)
  e : ∀ (k : Nat) (r : Run), rs[k]? = some r → ∃ tk, ev[k]? = some (.int (r.en : Int) tk)
  g : ∀ (k : Nat) (r : Run), rs[k]? = some r → ∃ tk, gv[k]? = some (.int (r.dn.length : Int) tk)
theorem set_self {l : List Value} {i : Nat} {v : Value} (h : l[i]? = some v) : l.set i v = l := by
  obtain ⟨hl, e⟩ := List.getElem?_eq_some_iff.mp h
  rw [← e]
  exact List.set_getElem_self hl
theorem Vals.set {pre post : List Run} {r r' : Run} {tv ev gv : List Value} {a b c : Tok} (h : Vals (pre ++ r :: post) tv ev gv) : Vals (pre ++ r' :: post) (tv.set pre.length (.str (catS r'.dn) a)) (ev.set pre.length (.int (r'.en : Int) b)) (gv.set pre.length (.int (r'.dn.length : Int) c)) := by
  have hl : (pre ++ r :: post).length = (pre ++ r' :: post).length := by simp
  have key : ∀ (k : Nat) (x : Run), (pre ++ r' :: post)[k]? = some x → (k = pre.length ∧ x = r') ∨ (k ≠ pre.length ∧ (pre ++ r :: post)[k]? = some x) := by
    intro k x hx
    rcases Nat.lt_trichotomy k pre.length with hk | hk | hk
    · rw [List.getElem?_append_left hk] at hx
      exact .inr ⟨by omega, by rw [List.getElem?_append_left hk]; exact hx⟩
    · subst hk
      rw [List.getElem?_append_right (Nat.le_refl _)] at hx
      exact .inl ⟨rfl, by simpa using hx.symm⟩
    · rw [List.getElem?_append_right (Nat.le_of_lt hk)] at hx
      refine .inr ⟨by omega, ?_⟩
      rw [List.getElem?_append_right (Nat.le_of_lt hk)]
      obtain ⟨m, hm⟩ : ∃ m, k - pre.length = m + 1 := ⟨k - pre.length - 1, by omega⟩
      rw [hm] at hx ⊢
      simpa using hx
  have lt : pre.length < (pre ++ r :: post).length := by simp
  refine ⟨by rw [List.length_set, h.tl, hl], by rw [List.length_set, h.el, hl], by rw [List.length_set, h.gl, hl], fun k x hx => ?_, fun k x hx => ?_, fun k x hx => ?_⟩
  · rcases key k x hx with ⟨rfl, rfl⟩ | ⟨hk, hx⟩
    · exact ⟨a, by rw [List.getElem?_set_self (by rw [h.tl]; exact lt)]⟩
    · rw [List.getElem?_set_ne (fun q => hk q.symm)]; exact h.t k x hx
  · rcases key k x hx with ⟨rfl, rfl⟩ | ⟨hk, hx⟩
    · exact ⟨b, by rw [List.getElem?_set_self (by rw [h.el]; exact lt)]⟩
    · rw [List.getElem?_set_ne (fun q => hk q.symm)]; exact h.e k x hx
  · rcases key k x hx with ⟨rfl, rfl⟩ | ⟨hk, hx⟩
    · exact ⟨c, by rw [List.getElem?_set_self (by rw [h.gl]; exact lt)]⟩
    · rw [List.getElem?_set_ne (fun q => hk q.symm)]; exact h.g k x hx
theorem Vals.setE {pre post : List Run} {r r' : Run} {tv ev gv : List Value} {b : Tok} (h : Vals (pre ++ r :: post) tv ev gv) (hd : r'.dn = r.dn) : Vals (pre ++ r' :: post) tv (ev.set pre.length (.int (r'.en : Int) b)) gv := by
  obtain ⟨a, ha⟩ := h.t pre.length r (by simp)
  obtain ⟨c, hc⟩ := h.g pre.length r (by simp)
  have z := h.set (r' := r') (a := a) (b := b) (c := c)
  have lt : pre.length < (pre ++ r :: post).length := by simp
  have e1 : tv.set pre.length (.str (catS r'.dn) a) = tv := by
    rw [hd]
    exact set_self ha
  have e2 : gv.set pre.length (.int (r'.dn.length : Int) c) = gv := by
    rw [hd]
    exact set_self hc
  rw [e1, e2] at z
  exact z
-- how the frame of the loop is looked at
structure LF (F : Option Value → Option Value → List (Option Value)) (to en gi ru : Addr) : Prop where
  to : ∀ a b, NAt (Str.ofString "told") (.ref to) lawKs (F a b)
  en : ∀ a b, NAt (Str.ofString "ended") (.ref en) lawKs (F a b)
  gi : ∀ a b, NAt (Str.ofString "given") (.ref gi) lawKs (F a b)
  ru : ∀ a b, NAt (Str.ofString "runs") (.ref ru) lawKs (F a b)
  r : ∀ a b v, NPut (Str.ofString "r") v lawKs (F a b) (F (some v) b)
  st : ∀ a b v, NPut (Str.ofString "steps") v lawKs (F a b) (F a (some v))
  rd : ∀ v b, NAt (Str.ofString "r") v lawKs (F (some v) b)
  sd : ∀ a v, NAt (Str.ofString "steps") v lawKs (F a (some v))
def law16 : Stmt := lawAt 16
def whileBdy : Stmt → List Stmt
  | .While _ b _ _ => b
  | _ => []
def whileTest : Stmt → Expr
  | .While t _ _ _ => t
  | _ => default
def law16w : Stmt := stAt law16 0
section
variable {B : Bx} {A : Around} {Ψ : Value → SH → Prop} {σ τ S R T : SH} {env : Env} {t : Th} {K : Kd}
theorem Sw.handle {e : Addr} {X T : String} {b : Bool} {t : Expr} {b₀ : Stmt} {suite : List Stmt} {pos : Pos} {rest : List ExceptHandler} {Φ : Flow → SH → Prop}
    (hexc : isSubtype (.type T) (.type "BaseException") = Pure.pure true) (hnt : isSubtype (.type ((Manifest.find? T).elim "type" fun x => x.metatype)) (.type "tuple") = Pure.pure false)
    (hsub : isSubtype (.type X) (.type T) = Pure.pure b)
    (x : Sw B (A.mark (some (.ref e))) (eval t env) (fun c τ => c = .type T ∧ TyIs B (.ref e) X τ ∧
      if b then Sw B (A.mark (some (.ref e))) (setFlight (.ref e) none) (fun _ τ => Sw B (A.mark (some (.ref e))) (execs (b₀ :: suite) env) Φ NoE τ) NoE τ else Sw B A (handleBy (.ref e) env rest) Φ Ψ τ) NoE σ) :
    Sw B A (handleBy (.ref e) env (.ExceptHandler (some t) none (b₀ :: suite) pos :: rest)) Φ Ψ σ := fun h g d k O => by
  refine wpAny_handleBy_builtin (X := X) (T := T) (b := b) hexc hnt hsub (wpAny_mono (x h g d k O) (fun c s q => ?_) fun _ _ q => q.none)
  obtain ⟨τ, O, eo, rfl, hT, q⟩ := q
  obtain ⟨h, g, d, k, os⟩ := s
  cases eo
  refine ⟨rfl, hT h g d k O, ?_⟩
  cases b with
  | true =>
    simp only [if_true] at q ⊢
    refine wpAny_mono (q h g d k O) (fun _ s q => ?_) fun _ _ q => q.none
    exact wpAny_mono (PA.binds (m := ()) q) (fun _ _ q => q) fun _ _ q => q.none
  | false =>
    simp only [Bool.false_eq_true, if_false] at q ⊢
    exact q h g d k O
theorem sub_se : isSubtype (.type "StopIteration") (.type "BaseException") = (Pure.pure true : Sem Bool) := by rw [isSubtype_type]; kernel_rfl
theorem sub_ve : isSubtype (.type "ValueError") (.type "BaseException") = (Pure.pure true : Sem Bool) := by rw [isSubtype_type]; kernel_rfl
theorem sub_ss : isSubtype (.type "StopIteration") (.type "StopIteration") = (Pure.pure true : Sem Bool) := by rw [isSubtype_type]; kernel_rfl
theorem sub_vv : isSubtype (.type "ValueError") (.type "ValueError") = (Pure.pure true : Sem Bool) := by rw [isSubtype_type]; kernel_rfl
theorem sub_vs : isSubtype (.type "ValueError") (.type "StopIteration") = (Pure.pure false : Sem Bool) := by rw [isSubtype_type]; kernel_rfl
theorem met_s : isSubtype (.type ((Manifest.find? "StopIteration").elim "type" fun x => x.metatype)) (.type "tuple") = (Pure.pure false : Sem Bool) := by rw [isSubtype_type]; kernel_rfl
theorem met_v : isSubtype (.type ((Manifest.find? "ValueError").elim "type" fun x => x.metatype)) (.type "tuple") = (Pure.pure false : Sem Bool) := by rw [isSubtype_type]; kernel_rfl
end
end

-- NF
section
local macro_rules | `(tactic| walk_at "gl") => `(tactic| with_reducible first | exact g_names _ | exact g_words _ | exact g_walk _ | exact g_same _ | exact g_part _ | exact g_enc _)
local macro_rules | `(tactic| walk_at "bl") => `(tactic| with_reducible first | exact b_range | exact b_sum | exact b_next | exact b_enum | exact b_Stop | exact b_VE)
section
variable {B : Bx} {A : Around} {Ψ : Value → SH → Prop} {σ τ S R T : SH} {env : Env} {t : Th} {K : Kd}
theorem wh_turn {F : Option Value → Option Value → List (Option Value)} {to en gi ru : Addr} {pre post : List Run} {r : Run} {ps : List Str} {ring : Bool} {tv ev gv qs : List Value} {Sh : SH} {st : Int} {kr ks : Tok} {Φ : Flow → SH → Prop}
    (E : EnvOk env lawKs lawFs) (GE : GlbOk env lawGs) (lf : LF F to en gi ru) (hh : A.handled = none) (hr : Roomy A 45) (hfr : A.frames = some [env]) (hf : env.frame = some env.locals)
    (h0 : r.en = 0) (ok : RunOk B t S ps ring r) (hT : ∀ c ∈ ecS r.e ++ (S ++ thW t B.w), c ∈ σ) (mq : Cl.o r.q (genP r.n) ∈ σ) (mru : Cl.o ru (listP qs) ∈ σ) (hq : qs[pre.length]? = some (.ref r.q)) (hv : Vals (pre ++ r :: post) tv ev gv) (hSh : I73 Sh)
    (hcat : (catS ps).length ≤ 100000) (hpl : pre.length < 3)
    (y : ∀ r' tv' ev' gv' Sh' ks', r'.q = r.q → r'.n = r.n → r'.e = r.e → RunOk B t S ps ring r' → (r'.en = 0 → r'.dn.length = r.dn.length + 1) → I73 Sh' → Vals (pre ++ r' :: post) tv' ev' gv' →
      Φ .next (.o env.locals (frameP lawKs (F (some (.int pre.length kr)) (some (.int (st - 1) ks')))) :: .o to (listW tv') :: .o en (listW ev') :: .o gi (listW gv') :: (liveS (pre ++ r' :: post) ++ (Sh' ++ σ)))) :
    Sw B A (execs (whileBdy law16w) env) Φ NoE (.o env.locals (frameP lawKs (F (some (.int pre.length kr)) (some (.int st ks)))) :: .o to (listW tv) :: .o en (listW ev) :: .o gi (listW gv) :: (liveS (pre ++ r :: post) ++ (Sh ++ σ))) := by
  have hlv : r.live = .g r.n r.gs :: r.pr := by unfold Run.live; rw [if_pos h0]
  have hkt : (pre ++ r :: post)[pre.length]? = some r := by simp
  obtain ⟨k1, hk1⟩ := hv.t _ _ hkt
  obtain ⟨k2, hk2⟩ := hv.e _ _ hkt
  obtain ⟨k3, hk3⟩ := hv.g _ _ hkt
  have hln : (pre ++ r :: post).length = pre.length + 1 + post.length := by simp; omega
  refine Sw.shrinkN ?_
  refine Sw.execs_cons (Sw.s_AugAssign_Name (Sw.ldn E (lf.sd _ _) (Sw.e_Const_int fun q1 => Sw.isubI fun ks' => Sw.st E (lf.st _ _ _) ?_)))
  -- the frames that stand, for what is raised
  have frs : ∀ {fr : List (Option Value)} {ρ : SH}, Cl.o env.locals (frameP lawKs fr) ∈ ρ → Frs [env] ρ := fun hm => Frs.cons Frs.nil (by rw [E.kind]; decide) hf hm
  have hdr : r.dn ++ r.rem = ps := ok.ps
  have hp := ok.live h0
  refine Sw.execs_cons (Sw.s_Try ?_)
  refine Sw.execs_cons (Sw.s_Aug_Sub ?_)
  refine Sw.ld E (lf.to _ _) (Sw.ld E (lf.rd _ _) ?_)
  refine Sw.idxW (vs := tv) (.tail _ (.head _)) (by omega) (by omega) (by simpa using hk1) ?_
  refine Sw.e_Call_Name ?_
  walk_at "py"
  refine Sw.ld E (lf.ru _ _) (Sw.ld E (lf.rd _ _) ?_)
  refine atL (vs := qs) (.tail _ (.tail _ (.tail _ (.tail _ (List.mem_append_right _ (List.mem_append_right _ mru)))))) (by omega) (by omega) (by simpa using hq) ?_
  refine ⟨trivial, ?_⟩
  have hmem : ∀ c ∈ σ, c ∈ Cl.o env.locals (frameP lawKs (F (some (.int pre.length kr)) (some (.int (st - 1) ks')))) :: .o to (listW tv) :: .o en (listW ev) :: .o gi (listW gv) :: (liveS pre ++ (liveS post ++ σ)) := fun c hc => .tail _ (.tail _ (.tail _ (.tail _ (List.mem_append_right _ (List.mem_append_right _ hc)))))
  refine Sw.subp (τ := .g r.n r.gs :: (r.pr ++ (Sh ++ (.o env.locals (frameP lawKs (F (some (.int pre.length kr)) (some (.int (st - 1) ks')))) :: .o to (listW tv) :: .o en (listW ev) :: .o gi (listW gv) :: (liveS pre ++ (liveS post ++ σ)))))) ?_ (by rw [liveS_mid, hlv]; walk_at "subp")
  refine Sw.call_next_pend (l := [env]) (n := 40) hp ⟨hh, hfr, frs (.head _), hr.le (by omega)⟩ (hmem _ mq) (fun c hc => hmem c (hT c hc)) hSh ?_
  cases hrem : r.rem with
  | nil =>
    cases hrg : r.ring with
    | false =>
      intro Sh' hSh' x
      refine Sw.note_first (σ := Sh' ++ (.o env.locals (frameP lawKs (F (some (.int pre.length kr)) (some (.int (st - 1) ks')))) :: .o to (listW tv) :: .o en (listW ev) :: .o gi (listW gv) :: (liveS pre ++ (liveS post ++ σ)))) hfr (frs (List.mem_append_right _ (.head _))) hf fun T => ?_
      refine Sw.flight (fr := none) ?_
      refine Sw.handle (X := "StopIteration") sub_se met_s sub_ss ?_
      walk_at "py"
      refine ⟨rfl, TyIs.own (.head _) (fun o h => h.1), ?_⟩
      rw [if_pos rfl]
      refine Sw.flight (fr := none) ?_
      refine Sw.subp (τ := .o env.locals (frameP lawKs (F (some (.int pre.length kr)) (some (.int (st - 1) ks')))) :: .o to (listW tv) :: .o en (listW ev) :: .o gi (listW gv) :: (liveS pre ++ (liveS post ++ (Sh' ++ σ)))) ?_ (by walk_at "subp")
      refine Sw.execs_cons (Sw.s_Assign_Sub (Sw.e_Const_int fun kv => Sw.ld E (lf.en _ _) (Sw.ld E (lf.rd _ _) ?_)))
      refine Sw.setW (vs := ev) (.tail (.tail .head)) (by omega) (by omega) (by rw [hv.el, hln]; omega) ?_
      refine Sw.execs_nil (Sw.execs_nil ?_)
      have ok' : RunOk B t S ps ring { r with en := 1 } := ⟨hdr, ok.ring, (fun h => by cases h), (fun _ => ⟨hrg, hrem⟩), (fun h => by cases h), (by show 1 ≤ 2; decide)⟩
      refine ⟨_, ?_, y { r with en := 1 } tv (ev.set pre.length (.int 1 kv)) gv Sh' ks' rfl rfl rfl ok' (fun h => by cases h) hSh' (hv.setE (r' := { r with en := 1 }) rfl)⟩
      rw [liveS_mid]
      have e0 : Run.live { r with en := 1 } = [] := rfl
      rw [e0]
      simp only [Int.toNat_natCast]
      walk_at "subp"
    | true =>
      intro x T' Sh' hSh'
      refine Sw.note_next (σ := Sh' ++ (.o env.locals (frameP lawKs (F (some (.int pre.length kr)) (some (.int (st - 1) ks')))) :: .o to (listW tv) :: .o en (listW ev) :: .o gi (listW gv) :: (liveS pre ++ (liveS post ++ σ)))) hfr (frs (List.mem_append_right _ (.head _))) hf fun T => ?_
      refine Sw.flight (fr := none) ?_
      refine Sw.handle (X := "ValueError") sub_se met_s sub_vs ?_
      walk_at "py"
      refine ⟨rfl, TyIs.own (.head _) (fun o h => h.1), ?_⟩
      rw [if_neg Bool.false_ne_true]
      refine Sw.handle (X := "ValueError") sub_ve met_v sub_vv ?_
      walk_at "py"
      refine ⟨rfl, TyIs.own (.head _) (fun o h => h.1), ?_⟩
      rw [if_pos rfl]
      refine Sw.flight (fr := none) ?_
      refine Sw.subp (τ := .o env.locals (frameP lawKs (F (some (.int pre.length kr)) (some (.int (st - 1) ks')))) :: .o to (listW tv) :: .o en (listW ev) :: .o gi (listW gv) :: (liveS pre ++ (liveS post ++ (Sh' ++ σ)))) ?_ (by walk_at "subp")
      refine Sw.execs_cons (Sw.s_Assign_Sub (Sw.e_Const_int fun kv => Sw.ld E (lf.en _ _) (Sw.ld E (lf.rd _ _) ?_)))
      refine Sw.setW (vs := ev) (.tail (.tail .head)) (by omega) (by omega) (by rw [hv.el, hln]; omega) ?_
      refine Sw.execs_nil (Sw.execs_nil ?_)
      have ok' : RunOk B t S ps ring { r with en := 2 } := ⟨hdr, ok.ring, (fun h => by cases h), (fun h => by cases h), (fun _ => ⟨hrg, hrem⟩), (by show 2 ≤ 2; decide)⟩
      refine ⟨_, ?_, y { r with en := 2 } tv (ev.set pre.length (.int 2 kv)) gv Sh' ks' rfl rfl rfl ok' (fun h => by cases h) hSh' (hv.setE (r' := { r with en := 2 }) rfl)⟩
      rw [liveS_mid]
      have e0 : Run.live { r with en := 2 } = [] := rfl
      rw [e0]
      simp only [Int.toNat_natCast]
      walk_at "subp"
  | cons p ps' =>
    intro tok gs' σ' Sh' hSh' hp'
    rw [hrem] at hdr
    have hcl : (catS r.dn).length + p.length ≤ 100000 := by
      have h1 := catS_len ps
      rw [← hdr] at h1 hcat
      rw [catS_len] at hcat
      rw [catS_len]
      rw [List.map_append, List.sum_append, List.map_cons, List.sum_cons] at hcat
      omega
    refine Sw.iaddStr ?_ (by rw [sizeLine_eq]; omega)
    intro kt
    refine Sw.subp (τ := .o env.locals (frameP lawKs (F (some (.int pre.length kr)) (some (.int (st - 1) ks')))) :: .o to (listW tv) :: .o en (listW ev) :: .o gi (listW gv) :: .g r.n gs' :: (σ' ++ (Sh' ++ (liveS pre ++ (liveS post ++ σ))))) ?_ (by walk_at "subp")
    refine Sw.setW (vs := tv) (.tail .head) (by omega) (by omega) (by rw [hv.tl, hln]; omega) ?_
    refine Sw.execs_cons (Sw.s_Aug_Sub ?_)
    refine Sw.ld E (lf.gi _ _) (Sw.ld E (lf.rd _ _) ?_)
    refine Sw.idxW (vs := gv) (.tail _ (.tail _ (.tail _ (.head _)))) (by omega) (by omega) (by simpa using hk3) ?_
    refine Sw.e_Const_int fun q2 => Sw.iaddI fun kg => ?_
    refine Sw.setW (vs := gv) (.tail (.tail (.tail .head))) (by omega) (by omega) (by rw [hv.gl, hln]; omega) ?_
    refine Sw.execs_nil (Sw.execs_nil (Sw.execs_nil ?_))
    have ok' : RunOk B t S ps ring { r with gs := gs', pr := σ', dn := r.dn ++ [p], rem := ps' } := ⟨(by show (r.dn ++ [p]) ++ ps' = ps; rw [← hdr]; simp), ok.ring, (fun _ => hp'), (fun h => by have h : r.en = 1 := h; rw [h0] at h; cases h), (fun h => by have h : r.en = 2 := h; rw [h0] at h; cases h), ok.en⟩
    have hv' := hv.set (r' := { r with gs := gs', pr := σ', dn := r.dn ++ [p], rem := ps' }) (a := kt) (b := k2) (c := kg)
    have e2 : ev.set pre.length (.int (r.en : Int) k2) = ev := set_self hk2
    rw [show ({ r with gs := gs', pr := σ', dn := r.dn ++ [p], rem := ps' } : Run).en = r.en from rfl, e2] at hv'
    refine ⟨_, ?_, y { r with gs := gs', pr := σ', dn := r.dn ++ [p], rem := ps' } _ _ _ Sh' ks' rfl rfl rfl ok' (fun _ => by simp) hSh' hv'⟩
    rw [liveS_mid]
    have e0 : Run.live { r with gs := gs', pr := σ', dn := r.dn ++ [p], rem := ps' } = .g r.n gs' :: σ' := by unfold Run.live; rw [if_pos h0]
    rw [e0]
    have e4 : (((r.dn ++ [p]).length : Nat) : Int) = (r.dn.length : Int) + 1 := by simp
    simp only [Int.toNat_natCast, e4, catS_snoc]
    walk_at "subp"
end
end

-- NG
section
local macro_rules | `(tactic| walk_at "gl") => `(tactic| with_reducible first | exact g_names _ | exact g_words _ | exact g_walk _ | exact g_same _ | exact g_part _ | exact g_enc _)
local macro_rules | `(tactic| walk_at "bl") => `(tactic| with_reducible first | exact b_range | exact b_sum | exact b_next | exact b_enum | exact b_Stop | exact b_VE)
theorem mid_get {α : Type} {pre post : List α} {r r' : α} (k : Nat) (x : α) (hx : (pre ++ r' :: post)[k]? = some x) : (k = pre.length ∧ x = r') ∨ (k ≠ pre.length ∧ (pre ++ r :: post)[k]? = some x) := by
  rcases Nat.lt_trichotomy k pre.length with hk | hk | hk
  · rw [List.getElem?_append_left hk] at hx
    exact .inr ⟨by omega, by rw [List.getElem?_append_left hk]; exact hx⟩
  · subst hk
    rw [List.getElem?_append_right (Nat.le_refl _)] at hx
    exact .inl ⟨rfl, by simpa using hx.symm⟩
  · rw [List.getElem?_append_right (Nat.le_of_lt hk)] at hx
    refine .inr ⟨by omega, ?_⟩
    rw [List.getElem?_append_right (Nat.le_of_lt hk)]
    obtain ⟨m, hm⟩ : ∃ m, k - pre.length = m + 1 := ⟨k - pre.length - 1, by omega⟩
    rw [hm] at hx ⊢
    simpa using hx
structure RsOk (B : Bx) (t : Th) (S : SH) (ns : List Int) (σ : SH) (qs : List Value) (rs : List Run) : Prop where
  len : rs.length = 3
  ok : ∀ (k : Nat) (r : Run), rs[k]? = some r → RunOk B t S (tolds t ns (rootN ns k)).1 (tolds t ns (rootN ns k)).2 r ∧ (∀ c ∈ ecS r.e ++ (S ++ thW t B.w), c ∈ σ) ∧ Cl.o r.q (genP r.n) ∈ σ ∧ qs[k]? = some (.ref r.q)
theorem RsOk.set {B : Bx} {t : Th} {S : SH} {ns : List Int} {σ : SH} {qs : List Value} {pre post : List Run} {r r' : Run} (h : RsOk B t S ns σ qs (pre ++ r :: post)) (h1 : r'.q = r.q) (h2 : r'.n = r.n) (h3 : r'.e = r.e)
    (h4 : RunOk B t S (tolds t ns (rootN ns pre.length)).1 (tolds t ns (rootN ns pre.length)).2 r') : RsOk B t S ns σ qs (pre ++ r' :: post) := by
  refine ⟨by have := h.len; simp at this ⊢; omega, fun k x hx => ?_⟩
  rcases mid_get (r := r) k x hx with ⟨rfl, rfl⟩ | ⟨_, hx⟩
  · obtain ⟨_, b, c, d⟩ := h.ok pre.length r (by simp)
    rw [h1, h2, h3]
    exact ⟨h4, b, c, d⟩
  · exact h.ok k x hx
-- what the entries of the order that were gone through leave
def Driven (os : List Ord) (rs : List Run) : Prop := ∀ o ∈ os, ∀ r, rs[o.r.toNat]? = some r → r.en = 0 → o.s ≤ r.dn.length
theorem Driven.set {os : List Ord} {pre post : List Run} {r r' : Run} (h : Driven os (pre ++ r :: post)) (h1 : r'.en = 0 → r.en = 0 ∧ r.dn.length ≤ r'.dn.length) : Driven os (pre ++ r' :: post) := by
  intro o ho x hx hx0
  rcases mid_get (r := r) o.r.toNat x hx with ⟨e, rfl⟩ | ⟨_, hx⟩
  · obtain ⟨a, b⟩ := h1 hx0
    have := h o ho r (by rw [e]; simp) a
    omega
  · exact h o ho x hx hx0
section
variable {B : Bx} {A : Around} {Ψ : Value → SH → Prop} {σ τ S R T : SH} {env : Env} {t : Th} {K : Kd}
theorem wh_loop {F : Option Value → Option Value → List (Option Value)} {to en gi ru : Addr} {ns : List Int} {pre post : List Run} {qs : List Value} {kr : Tok} {Q : Result → SH → Prop}
    (E : EnvOk env lawKs lawFs) (GE : GlbOk env lawGs) (lf : LF F to en gi ru) (hh : A.handled = none) (hr : Roomy A 45) (hfr : A.frames = some [env]) (hf : env.frame = some env.locals)
    (mru : Cl.o ru (listP qs) ∈ σ) (hcat : ∀ k, k < 3 → (catS (tolds t ns (rootN ns k)).1).length ≤ 100000) (hpl : pre.length < 3) {r0 : Run} :
    ∀ (m : Nat) (r : Run) (ks : Tok) (tv ev gv : List Value) (Sh : SH), RsOk B t S ns σ qs (pre ++ r :: post) → Vals (pre ++ r :: post) tv ev gv → I73 Sh →
      (∀ r' tv' ev' gv' Sh' sv, r'.q = r.q → r'.n = r.n → r'.e = r.e → RunOk B t S (tolds t ns (rootN ns pre.length)).1 (tolds t ns (rootN ns pre.length)).2 r' → Vals (pre ++ r' :: post) tv' ev' gv' → I73 Sh' → (r'.en = 0 → r.en = 0 ∧ r'.dn.length = r.dn.length + m) →
        Q (.ok .next) (.o env.locals (frameP lawKs (F (some (.int pre.length kr)) (some sv))) :: .o to (listW tv') :: .o en (listW ev') :: .o gi (listW gv') :: (liveS (pre ++ r' :: post) ++ (Sh' ++ σ)))) →
      Sc B A (.whileLoop (whileTest law16w) (whileBdy law16w) [] env) Q (.o env.locals (frameP lawKs (F (some (.int pre.length kr)) (some (.int (m : Int) ks)))) :: .o to (listW tv) :: .o en (listW ev) :: .o gi (listW gv) :: (liveS (pre ++ r :: post) ++ (Sh ++ σ))) := by
  intro m
  induction m with
  | zero =>
    intro r ks tv ev gv Sh hR hv hSh hQ
    refine Sc.while1 ?_
    show Sw B A (PySem.isTrue (.BoolOp .And (_ :: _) _) env _) _ _ _
    refine Sw.isTrue_and (Sw.isTrue_Compare (Sw.ld E (lf.sd _ _) (Sw.e_Const_int fun q1 => Sw.gtI (Sw.truthy_bool ?_))))
    refine ite_neg (by decide) ?_
    refine ite_neg Bool.false_ne_true ?_
    exact Sw.execs_nil (hQ r tv ev gv Sh _ rfl rfl rfl (hR.ok _ r (by simp)).1 hv hSh fun h => ⟨h, by omega⟩)
  | succ m ih =>
    intro r ks tv ev gv Sh hR hv hSh hQ
    have hkt : (pre ++ r :: post)[pre.length]? = some r := by simp
    obtain ⟨k2, hk2⟩ := hv.e _ _ hkt
    obtain ⟨hok, hT, mq, hqs⟩ := hR.ok _ _ hkt
    refine Sc.while1 ?_
    show Sw B A (PySem.isTrue (.BoolOp .And (_ :: _) _) env _) _ _ _
    refine Sw.isTrue_and (Sw.isTrue_Compare (Sw.ld E (lf.sd _ _) (Sw.e_Const_int fun q1 => Sw.gtI (Sw.truthy_bool ?_))))
    refine ite_pos (by simp) ?_
    refine Sw.isTrue_and (Sw.isTrue_Compare (Sw.e_Subscript (Sw.ld E (lf.en _ _) (Sw.ld E (lf.rd _ _) ⟨⟨"list", _, PySem.F.slot_list_getitem.lookup, TyIs.own (P := listW ev) (.tail _ (.tail _ (.head _))) (fun o h => h.1)⟩, Sw.idxW (vs := ev) (.tail _ (.tail _ (.head _))) (by omega) (by omega) (by simpa using hk2) (Sw.e_Const_int fun q2 => Sw.eqI (Sw.truthy_bool ?_))⟩))))
    by_cases h0 : r.en = 0
    · refine ite_pos (by simp [h0]) (Sw.isTrue_and0 ?_)
      refine ite_pos rfl ?_
      refine wh_turn (st := ((m + 1 : Nat) : Int)) E GE lf hh hr hfr hf h0 hok hT mq mru hqs hv hSh (hcat _ hpl) hpl fun r' tv' ev' gv' Sh' ks' e1 e2 e3 ok' hd hSh' hv' => ?_
      have ez : ((m + 1 : Nat) : Int) - 1 = (m : Int) := by omega
      rw [ez]
      refine ih r' ks' tv' ev' gv' Sh' (hR.set e1 e2 e3 ok') hv' hSh' fun r'' tv2 ev2 gv2 Sh2 sv f1 f2 f3 ok2 hv2 hSh2 hd2 => ?_
      refine hQ r'' tv2 ev2 gv2 Sh2 sv (f1.trans e1) (f2.trans e2) (f3.trans e3) ok2 hv2 hSh2 fun h => ?_
      obtain ⟨a, b⟩ := hd2 h
      have := hd a
      exact ⟨h0, by omega⟩
    · refine ite_neg (by simpa using h0) ?_
      refine ite_neg Bool.false_ne_true ?_
      exact Sw.execs_nil (hQ r tv ev gv Sh _ rfl rfl rfl hok hv hSh fun h => absurd h h0)
theorem ord_loop {F : Option Value → Option Value → List (Option Value)} {to en gi ru ol it : Addr} {ns : List Int} {qs : List Value} {oall : List Ord} {Q : Result → SH → Prop}
    (E : EnvOk env lawKs lawFs) (GE : GlbOk env lawGs) (lf : LF F to en gi ru) (hh : A.handled = none) (hr : Roomy A 45) (hfr : A.frames = some [env]) (hf : env.frame = some env.locals)
    (mru : Cl.o ru (listP qs) ∈ σ) (hcat : ∀ k, k < 3 → (catS (tolds t ns (rootN ns k)).1).length ≤ 100000) (mol : Cl.o ol (listP (oall.map fun o => .ref o.ad)) ∈ σ) (mor : ∀ o ∈ oall, Cl.o o.ad (tupP [.int o.r o.k1, .int o.s o.k2]) ∈ σ) (hos : ∀ o ∈ oall, 0 ≤ o.r ∧ o.r < 3 ∧ 0 ≤ o.s)
    (hQ : ∀ rs tv ev gv Sh a b, RsOk B t S ns σ qs rs → Vals rs tv ev gv → I73 Sh → Driven oall rs →
        Q (.ok .next) (.o env.locals (frameP lawKs (F a b)) :: .o to (listW tv) :: .o en (listW ev) :: .o gi (listW gv) :: (liveS rs ++ (Sh ++ σ)))) :
    ∀ (os dn : List Ord), oall = dn ++ os → ∀ (rs : List Run) (tv ev gv : List Value) (Sh : SH) (a b : Option Value), RsOk B t S ns σ qs rs → Vals rs tv ev gv → I73 Sh → Driven dn rs →
      Sc B A (.forLoop (forTgt law16) (.ref it) (forBdy law16) [] env) Q (.o env.locals (frameP lawKs (F a b)) :: .o to (listW tv) :: .o en (listW ev) :: .o gi (listW gv) :: (liveS rs ++ (Sh ++ (.o it (liP ol dn.length) :: σ)))) := by
  intro os
  induction os with
  | nil =>
    intro dn hdn rs tv ev gv Sh a b hR hv hSh hD
    refine Sc.for1 ?_
    refine Sw.subp (τ := .o it (liP ol dn.length) :: .o env.locals (frameP lawKs (F a b)) :: .o to (listW tv) :: .o en (listW ev) :: .o gi (listW gv) :: (liveS rs ++ (Sh ++ σ))) ?_ (by walk_at "subp")
    refine Sw.next_list_end (l := ol) (vs := oall.map fun o => .ref o.ad) (i := dn.length) hh .head (.tail _ (.tail _ (.tail _ (.tail _ (.tail _ (List.mem_append_right _ (List.mem_append_right _ mol))))))) (by rw [hdn]; simp) ?_
    have e : oall = dn := by rw [hdn]; simp
    exact Sw.execs_nil (hQ rs tv ev gv Sh a b hR hv hSh (by rw [e]; exact hD))
  | cons o os ih =>
    intro dn hdn rs tv ev gv Sh a b hR hv hSh hD
    have hom : o ∈ oall := by rw [hdn]; simp
    obtain ⟨o1, o2, o3⟩ := hos o hom
    obtain ⟨m, hm⟩ : ∃ m : Nat, o.s = (m : Int) := ⟨o.s.toNat, by omega⟩
    have hlt : o.r.toNat < rs.length := by rw [hR.len]; omega
    obtain ⟨pre, r, post, hrs, hpl⟩ : ∃ pre r post, rs = pre ++ r :: post ∧ pre.length = o.r.toNat := ⟨rs.take o.r.toNat, rs[o.r.toNat], rs.drop (o.r.toNat + 1), by rw [List.getElem_cons_drop, List.take_append_drop], by rw [List.length_take]; omega⟩
    subst hrs
    have er : o.r = (pre.length : Int) := by omega
    refine Sc.for1 ?_
    refine Sw.subp (τ := .o it (liP ol dn.length) :: .o env.locals (frameP lawKs (F a b)) :: .o to (listW tv) :: .o en (listW ev) :: .o gi (listW gv) :: (liveS (pre ++ r :: post) ++ (Sh ++ σ))) ?_ (by walk_at "subp")
    refine Sw.next_list (l := ol) (vs := oall.map fun o => .ref o.ad) (i := dn.length) (v := .ref o.ad) .head (.tail _ (.tail _ (.tail _ (.tail _ (.tail _ (List.mem_append_right _ (List.mem_append_right _ mol))))))) (by rw [hdn]; simp) ?_
    refine Sw.letGo_li (l := ol) (i := dn.length + 1) (.head _) ?_
    refine Sw.subp (τ := .o env.locals (frameP lawKs (F a b)) :: .o to (listW tv) :: .o en (listW ev) :: .o gi (listW gv) :: (liveS (pre ++ r :: post) ++ (Sh ++ (.o it (liP ol (dn.length + 1)) :: σ)))) ?_ (by walk_at "subp")
    refine Sw.assign_pair (v1 := .int o.r o.k1) (v2 := .int o.s o.k2) hh (.tail _ (.tail _ (.tail _ (.tail _ (List.mem_append_right _ (List.mem_append_right _ (.tail _ (mor o hom)))))))) ?_
    refine Sw.assign_Name (Sw.st E (lf.r _ _ _) (Sw.assign_Name (Sw.st E (lf.st _ _ _) ?_)))
    refine Sw.execs_cons (Sw.s_While ?_)
    rw [er, hm]
    have hR' : RsOk B t S ns (.o it (liP ol (dn.length + 1)) :: σ) qs (pre ++ r :: post) := ⟨hR.len, fun k x hx => let ⟨p1, p2, p3, p4⟩ := hR.ok k x hx; ⟨p1, fun c hc => .tail _ (p2 c hc), .tail _ p3, p4⟩⟩
    refine wh_loop (σ := .o it (liP ol (dn.length + 1)) :: σ) (r0 := r) E GE lf hh hr hfr hf (.tail _ mru) hcat (by omega) m r o.k2 tv ev gv Sh hR' hv hSh fun r' tv' ev' gv' Sh' sv f1 f2 f3 ok' hv' hSh' hd => ?_
    refine Sw.execs_nil ?_
    have hR3 : RsOk B t S ns σ qs (pre ++ r' :: post) := hR.set f1 f2 f3 ok'
    have z := ih (dn ++ [o]) (by rw [hdn]; simp) (pre ++ r' :: post) tv' ev' gv' Sh' (some (.int pre.length o.k1)) (some sv) hR3 hv' hSh' (fun o' ho' => by
      rcases List.mem_append.mp ho' with ho' | ho'
      · exact (hD.set fun h => let ⟨a, b⟩ := hd h; ⟨a, by omega⟩) o' ho'
      · rcases List.mem_singleton.mp ho' with rfl
        intro x hx hx0
        rw [← hpl] at hx
        have : x = r' := by simpa using hx.symm
        subst this
        have := (hd hx0).2
        omega)
    rw [show (dn ++ [o]).length = dn.length + 1 by simp] at z
    exact z
end
end

-- P0
section
theorem st_assoc (a b c : Str) : (a ++ b) ++ c = a ++ (b ++ c) := by
  show Str.mk ((a.cps ++ b.cps) ++ c.cps) = Str.mk (a.cps ++ (b.cps ++ c.cps))
  rw [Array.append_assoc]
theorem e_st (a : Str) : Str.ofString "" ++ a = a := by
  obtain ⟨c⟩ := a
  show Str.mk (#[] ++ c) = _
  rw [Array.empty_append]
theorem st_e (a : Str) : a ++ Str.ofString "" = a := by
  obtain ⟨c⟩ := a
  show Str.mk (c ++ #[]) = _
  rw [Array.append_empty]
theorem cat_fold (ps : List Str) : ∀ a : Str, ps.foldl (· ++ ·) a = a ++ catS ps := by
  induction ps with
  | nil => intro a; exact (st_e a).symm
  | cons p ps ih =>
    intro a
    have h1 : catS (p :: ps) = (Str.ofString "" ++ p) ++ catS ps := ih _
    rw [h1, e_st, List.foldl_cons, ih, st_assoc]
theorem catS_nil : catS [] = Str.ofString "" := rfl
theorem catS_cons (p : Str) (ps : List Str) : catS (p :: ps) = p ++ catS ps := by
  show ps.foldl (· ++ ·) (Str.ofString "" ++ p) = _
  rw [e_st, cat_fold]
theorem catS_append (a b : List Str) : catS (a ++ b) = catS a ++ catS b := by
  unfold catS
  rw [List.foldl_append, cat_fold]; rfl
theorem key_text (j : Nat) : keyT j ++ Str.ofString ": " = (Str.ofString "\"" ++ nameK j) ++ Str.ofString "\": " := by
  unfold keyT
  rw [st_assoc (Str.ofString "\"" ++ nameK j)]
  rfl
section
variable {gT : Nat → List Str × Bool} {gW : Nat → Str × Bool} {sep line : Str}
theorem wparts_list {buf0 : Str} : ∀ (ps : List Int) (j : Nat) (text : Str), 0 < j → (∀ p ∈ ps, 0 ≤ p → catS (gT p.toNat).1 = (gW p.toNat).1 ∧ (gT p.toNat).2 = (gW p.toNat).2) →
    wparts gW false sep line ps j text = (text ++ catS (partsL buf0 (sep ++ line) gT ps false).1, (partsL buf0 (sep ++ line) gT ps false).2)
  | [], j, text, _, _ => by simp only [wparts, partsL, catS_nil, st_e]
  | p :: ps, j, text, hj, hg => by
    have ih := fun t => wparts_list (buf0 := buf0) ps (j + 1) t (Nat.succ_pos _) fun q hq => hg q (.tail _ hq)
    simp only [wparts, partsL, if_pos hj, Bool.false_eq_true, if_false]
    by_cases hp : p < 0
    · simp only [if_pos hp]
      rw [ih, catS_cons]
      simp only [st_assoc]
    · obtain ⟨h1, h2⟩ := hg p (.head _) (by omega)
      simp only [if_neg hp]
      rw [← h2]
      cases hr : (gT p.toNat).2 with
      | true =>
        simp only [if_true]
        rw [catS_cons, h1]
        simp only [st_assoc]
      | false =>
        simp only [Bool.false_eq_true, if_false]
        rw [ih, catS_cons, catS_append, h1]
        simp only [st_assoc]
theorem wparts_list0 {p : Int} {ps : List Int} {text : Str} (hg : ∀ q ∈ p :: ps, 0 ≤ q → catS (gT q.toNat).1 = (gW q.toNat).1 ∧ (gT q.toNat).2 = (gW q.toNat).2) :
    wparts gW false sep line (p :: ps) 0 text = (catS (partsL (text ++ line) (sep ++ line) gT (p :: ps) true).1, (partsL (text ++ line) (sep ++ line) gT (p :: ps) true).2) := by
  have ih := fun t => wparts_list (buf0 := text ++ line) (gT := gT) (gW := gW) (sep := sep) (line := line) ps 1 t (by decide) fun q hq => hg q (.tail _ hq)
  simp only [wparts, partsL, if_neg (Nat.lt_irrefl 0), Bool.false_eq_true, if_false, if_true, Nat.zero_add, gt_iff_lt]
  by_cases hp : p < 0
  · simp only [if_pos hp]
    rw [ih, catS_cons]
  · obtain ⟨h1, h2⟩ := hg p (.head _) (by omega)
    simp only [if_neg hp]
    rw [← h2]
    cases hr : (gT p.toNat).2 with
    | true =>
      simp only [if_true]
      rw [catS_cons, h1]
    | false =>
      simp only [Bool.false_eq_true, if_false]
      rw [ih, catS_cons, catS_append, h1]
      simp only [st_assoc]
theorem wparts_dict : ∀ (ps : List Int) (j : Nat) (text : Str), (∀ p ∈ ps, 0 ≤ p → catS (gT p.toNat).1 = (gW p.toNat).1 ∧ (gT p.toNat).2 = (gW p.toNat).2) → (j = 0 → ps ≠ []) →
    wparts gW true sep line ps j text = ((if j = 0 then text ++ line else text) ++ catS (partsD (sep ++ line) gT ps j).1, (partsD (sep ++ line) gT ps j).2)
  | [], j, text, _, h0 => by
    have hj : j ≠ 0 := fun h => h0 h rfl
    simp only [wparts, partsD, catS_nil, st_e, if_neg hj]
  | p :: ps, j, text, hg, _ => by
    have ih := fun t => wparts_dict ps (j + 1) t (fun q hq => hg q (.tail _ hq)) (fun h => absurd h (Nat.succ_ne_zero _))
    have ih' : ∀ t, wparts gW true sep line ps (j + 1) t = (t ++ catS (partsD (sep ++ line) gT ps (j + 1)).1, (partsD (sep ++ line) gT ps (j + 1)).2) := fun t => by
      rw [ih t, if_neg (Nat.succ_ne_zero _)]
    have hpre : ∀ X : Str, (if j > 0 then text ++ sep else text) ++ line ++ (Str.ofString "\"" ++ nameK j ++ Str.ofString "\": ") ++ X = (if j = 0 then text ++ line else text) ++ (catS ((if j = 0 then [] else [sep ++ line]) ++ [keyT j, Str.ofString ": "]) ++ X) := by
      intro X
      rw [catS_append, catS_cons, catS_cons, catS_nil, st_e, key_text]
      by_cases hj : j = 0
      · subst hj
        simp only [if_neg (Nat.lt_irrefl 0), gt_iff_lt, if_true, catS_nil, e_st, st_assoc]
      · rw [if_pos (Nat.pos_of_ne_zero hj), if_neg hj, if_neg hj, catS_cons, catS_nil, st_e]
        simp only [st_assoc]
    simp only [wparts, partsD, if_true]
    by_cases hp : p < 0
    · simp only [if_pos hp]
      rw [ih', hpre]
      simp only [catS_append, catS_cons, catS_nil, st_e, st_assoc]
    · obtain ⟨h1, h2⟩ := hg p (.head _) (by omega)
      simp only [if_neg hp]
      rw [← h2]
      cases hr : (gT p.toNat).2 with
      | true =>
        simp only [if_true]
        rw [hpre]
        simp only [catS_append, catS_cons, catS_nil, st_e, st_assoc, h1]
      | false =>
        simp only [Bool.false_eq_true, if_false]
        rw [ih', hpre]
        simp only [catS_append, catS_cons, catS_nil, st_e, st_assoc, h1]
end
theorem close_cat {ind : Option Str} {deep : Nat} (x last : Str) : x ++ catS (closeI ind deep last) = tailT ind deep x ++ last := by
  cases ind with
  | none => show x ++ catS [last] = x ++ last; rw [catS_cons, catS_nil, st_e]
  | some s => show x ++ catS [Str.ofString "\n" ++ rep s deep, last] = (x ++ (Str.ofString "\n" ++ rep s deep)) ++ last; rw [catS_cons, catS_cons, catS_nil, st_e, st_assoc x]
theorem head_cat {ind : Option Str} {n : Nat} (X : List Str) : catS (Str.ofString "{" :: ((match ind with | none => [] | some _ => [nlI ind n]) ++ X)) = (Str.ofString "{" ++ nlI ind n) ++ catS X := by
  rw [catS_cons, catS_append]
  cases ind with
  | none => show Str.ofString "{" ++ (catS [] ++ catS X) = (Str.ofString "{" ++ Str.ofString "") ++ catS X; rw [catS_nil, e_st, st_e]
  | some s => show Str.ofString "{" ++ (catS [nlI (some s) n] ++ catS X) = _; rw [catS_cons, catS_nil, st_e, st_assoc]
theorem told_cat {t : Th} {ind : Option Str} (to : t.Ok) : ∀ (f i deep : Nat) (way : List Nat), i < t.sz → catS (told t ind f i deep way).1 = (walkT t ind f i deep way).1 ∧ (told t ind f i deep way).2 = (walkT t ind f i deep way).2
  | 0, _, _, _, _ => ⟨rfl, rfl⟩
  | f + 1, i, deep, way, hi => by
    by_cases hp : t.pt i = []
    · have he : (t.pt i).isEmpty = true := by rw [hp]; rfl
      rw [told_empty hp, walkT_empty he]
      exact ⟨by rw [catS_cons, catS_nil, st_e], rfl⟩
    have he : (t.pt i).isEmpty = false := by simpa using hp
    by_cases hw : i ∈ way
    · rw [told_ring hp hw, walkT_ring he hw]; exact ⟨rfl, rfl⟩
    have hg : ∀ q ∈ t.pt i, 0 ≤ q → catS ((fun j => told t ind f j (deep + 1) (way ++ [i])) q.toNat).1 = ((fun j => walkT t ind f j (deep + 1) (way ++ [i])) q.toNat).1 ∧ ((fun j => told t ind f j (deep + 1) (way ++ [i])) q.toNat).2 = ((fun j => walkT t ind f j (deep + 1) (way ++ [i])) q.toNat).2 :=
      fun q hq hq0 => told_cat to f q.toNat (deep + 1) (way ++ [i]) (by have := (to.low i hi q hq).2; omega)
    rw [walkT_go he hw]
    cases hd : t.isD i with
    | false =>
      rw [told_list hp hw hd]
      obtain ⟨p, ps, hpp⟩ : ∃ p ps, t.pt i = p :: ps := by
        cases h : t.pt i with
        | nil => exact absurd h hp
        | cons p ps => exact ⟨p, ps, rfl⟩
      have z := wparts_list0 (gT := fun j => told t ind f j (deep + 1) (way ++ [i])) (gW := fun j => walkT t ind f j (deep + 1) (way ++ [i])) (text := Str.ofString "[") (line := nlI ind (deep + 1)) (sep := sepI ind) (p := p) (ps := ps) fun q hq => hg q (by rw [hpp]; exact hq)
      have z2 : wpT t ind f i deep way = wparts (fun j => walkT t ind f j (deep + 1) (way ++ [i])) false (sepI ind) (nlI ind (deep + 1)) (p :: ps) 0 (Str.ofString "[") := by unfold wpT; rw [hd, hpp]; rfl
      rw [z2, z, hpp]
      generalize partsL _ _ _ (p :: ps) true = r
      obtain ⟨r1, r2⟩ := r
      cases r2 with
      | true => exact ⟨by simp [withCl], rfl⟩
      | false => exact ⟨by simp only [withCl, Bool.false_eq_true, if_false, catS_append]; exact close_cat _ _, rfl⟩
    | true =>
      rw [told_dict hp hw hd]
      have z := wparts_dict (gT := fun j => told t ind f j (deep + 1) (way ++ [i])) (gW := fun j => walkT t ind f j (deep + 1) (way ++ [i])) (line := nlI ind (deep + 1)) (sep := sepI ind) (t.pt i) 0 (Str.ofString "{") hg (fun _ => hp)
      have z2 : wpT t ind f i deep way = wparts (fun j => walkT t ind f j (deep + 1) (way ++ [i])) true (sepI ind) (nlI ind (deep + 1)) (t.pt i) 0 (Str.ofString "{") := by unfold wpT; rw [hd]; rfl
      rw [z2, z]
      generalize partsD _ _ (t.pt i) 0 = r
      obtain ⟨r1, r2⟩ := r
      cases r2 with
      | true => exact ⟨(head_cat (ind := ind) _).trans (by simp [withCl]), rfl⟩
      | false => exact ⟨(head_cat (ind := ind) _).trans (by simp only [withCl, Bool.false_eq_true, if_false, if_true, catS_append]; rw [← st_assoc]; exact close_cat _ _), rfl⟩
-- how many pieces
def pcs : Nat → Nat
  | 0 => 0
  | 1 => 1
  | n + 2 => 13 + 3 * pcs (n + 1)
theorem partsL_len {buf0 sep : Str} {g : Nat → List Str × Bool} {C : Nat} (hC : 0 < C) : ∀ (ps : List Int) (b : Bool), (∀ p ∈ ps, 0 ≤ p → (g p.toNat).1.length ≤ C) → (partsL buf0 sep g ps b).1.length ≤ ps.length * (C + 1)
  | [], _, _ => by simp [partsL]
  | p :: ps, b, h => by
    have ih := partsL_len hC (buf0 := buf0) (sep := sep) ps false fun q hq => h q (.tail _ hq)
    have hm : (ps.length + 1) * (C + 1) = ps.length * (C + 1) + (C + 1) := Nat.succ_mul ..
    simp only [partsL]
    rw [List.length_cons, hm]
    by_cases hp : p < 0
    · simp only [if_pos hp, List.length_cons]; omega
    · have := h p (.head _) (by omega)
      simp only [if_neg hp]
      split
      · simp only [List.length_cons]; omega
      · simp only [List.length_cons, List.length_append]; omega
theorem partsD_len {sep : Str} {g : Nat → List Str × Bool} {C : Nat} (hC : 0 < C) : ∀ (ps : List Int) (j : Nat), (∀ p ∈ ps, 0 ≤ p → (g p.toNat).1.length ≤ C) → (partsD sep g ps j).1.length ≤ ps.length * (C + 3)
  | [], _, _ => by simp [partsD]
  | p :: ps, j, h => by
    have ih := partsD_len hC (sep := sep) ps (j + 1) fun q hq => h q (.tail _ hq)
    have hm : (ps.length + 1) * (C + 3) = ps.length * (C + 3) + (C + 3) := Nat.succ_mul ..
    have hpre : ((if j = 0 then [] else [sep]) ++ [keyT j, Str.ofString ": "]).length ≤ 3 := by split <;> simp
    simp only [partsD]
    rw [List.length_cons, hm]
    by_cases hp : p < 0
    · simp only [if_pos hp, List.length_append, List.length_cons] at hpre ⊢; omega
    · have := h p (.head _) (by omega)
      simp only [if_neg hp]
      split
      · simp only [List.length_append] at hpre ⊢; omega
      · simp only [List.length_append] at hpre ⊢; omega
theorem told_len {t : Th} {ind : Option Str} (to : t.Ok) (hsz : t.sz ≤ 3) : ∀ (f i deep : Nat) (way : List Nat), i < t.sz → way.Nodup → (∀ j ∈ way, j < t.sz) → f + way.length = 4 → (told t ind f i deep way).1.length ≤ pcs f
  | 0, _, _, way, _, hnd, hw, hf => by have := nodup_len _ way hnd hw; omega
  | f + 1, i, deep, way, hi, hnd, hw, hf => by
    have h1 : 1 ≤ pcs (f + 1) := by cases f <;> simp [pcs]; omega
    by_cases hp : t.pt i = []
    · rw [told_empty hp]; exact h1
    by_cases hiw : i ∈ way
    · rw [told_ring hp hiw]; exact Nat.zero_le _
    have hnd' : (way ++ [i]).Nodup := List.nodup_append.mpr ⟨hnd, List.nodup_cons.mpr ⟨List.not_mem_nil, List.nodup_nil⟩, fun a ha b hb q => hiw (by rcases List.mem_singleton.mp hb with rfl; exact q ▸ ha)⟩
    have hw' : ∀ j ∈ way ++ [i], j < t.sz := fun j hj => by
      rcases List.mem_append.mp hj with hj | hj
      · exact hw j hj
      · rcases List.mem_singleton.mp hj with rfl; exact hi
    have hl2 := nodup_len _ (way ++ [i]) hnd' hw'
    obtain ⟨n, rfl⟩ : ∃ n, f = n + 1 := ⟨f - 1, by simp at hl2; omega⟩
    have hC : 0 < pcs (n + 1) := by cases n <;> simp [pcs]; omega
    have hg : ∀ q ∈ t.pt i, 0 ≤ q → ((fun j => told t ind (n + 1) j (deep + 1) (way ++ [i])) q.toNat).1.length ≤ pcs (n + 1) := fun q hq hq0 => told_len to hsz (n + 1) q.toNat (deep + 1) (way ++ [i]) (by have := (to.low i hi q hq).2; omega) hnd' hw' (by simp; omega)
    have hl := to.len i hi
    have hcl : ∀ last, (closeI ind deep last).length ≤ 2 := fun last => by unfold closeI; split <;> simp
    have hpc : pcs (n + 1 + 1) = 13 + 3 * pcs (n + 1) := rfl
    cases hd : t.isD i with
    | false =>
      rw [told_list hp hiw hd]
      have h2 := partsL_len (g := fun j => told t ind (n + 1) j (deep + 1) (way ++ [i])) hC (buf0 := Str.ofString "[" ++ nlI ind (deep + 1)) (sep := sepI ind ++ nlI ind (deep + 1)) (t.pt i) true hg
      have h3 : (t.pt i).length * (pcs (n + 1) + 1) ≤ 3 * (pcs (n + 1) + 1) := Nat.mul_le_mul_right _ hl
      have h4 := hcl (Str.ofString "]")
      simp only [withCl, List.length_append]
      split
      · simp only [List.length_nil]; omega
      · omega
    | true =>
      rw [told_dict hp hiw hd]
      have h2 := partsD_len (g := fun j => told t ind (n + 1) j (deep + 1) (way ++ [i])) hC (sep := sepI ind ++ nlI ind (deep + 1)) (t.pt i) 0 hg
      have h3 : (t.pt i).length * (pcs (n + 1) + 3) ≤ 3 * (pcs (n + 1) + 3) := Nat.mul_le_mul_right _ hl
      have h4 := hcl (Str.ofString "}")
      have h6 : ∀ b : Bool, (if b = true then [] else closeI ind deep (Str.ofString "}")).length ≤ 2 := fun b => by
        cases b with
        | true => exact Nat.zero_le _
        | false => exact h4
      have h7 := h6 (partsD (sepI ind ++ nlI ind (deep + 1)) (fun j => told t ind (n + 1) j (deep + 1) (way ++ [i])) (t.pt i) 0).2
      cases ind with
      | none => dsimp only; simp only [withCl, List.length_cons, List.length_append, List.nil_append] at h7 ⊢; omega
      | some s => dsimp only; simp only [withCl, List.length_cons, List.length_append, List.nil_append, List.length_nil] at h7 ⊢; omega
theorem told_min {t : Th} {ind : Option Str} {f i deep : Nat} {way : List Nat} (hp : t.pt i ≠ []) (hr : (told t ind (f + 1) i deep way).2 = false) : 1 < (told t ind (f + 1) i deep way).1.length := by
  have hcl : ∀ last, 1 ≤ (closeI ind deep last).length := fun last => by unfold closeI; split <;> simp
  by_cases hw : i ∈ way
  · rw [told_ring hp hw] at hr; cases hr
  cases hd : t.isD i with
  | true =>
    rw [told_dict hp hw hd] at hr ⊢
    have h4 := hcl (Str.ofString "}")
    simp only at hr
    simp only [withCl, hr, Bool.false_eq_true, if_false]
    rw [List.length_cons, List.length_append, List.length_append]
    omega
  | false =>
    rw [told_list hp hw hd] at hr ⊢
    have h4 := hcl (Str.ofString "]")
    obtain ⟨p, ps, hpp⟩ : ∃ p ps, t.pt i = p :: ps := by
      cases h : t.pt i with
      | nil => exact absurd h hp
      | cons p ps => exact ⟨p, ps, rfl⟩
    simp only at hr
    simp only [withCl, hr, Bool.false_eq_true, if_false]
    rw [List.length_append]
    have : 1 ≤ (partsL (Str.ofString "[" ++ nlI ind (deep + 1)) (sepI ind ++ nlI ind (deep + 1)) (fun j => told t ind f j (deep + 1) (way ++ [i])) (t.pt i) true).1.length := by
      rw [hpp]
      simp only [partsL]
      split
      · simp
      · split <;> simp
    omega
end

-- NH
section
local macro_rules | `(tactic| walk_at "gl") => `(tactic| with_reducible first | exact g_names _ | exact g_words _ | exact g_walk _ | exact g_same _ | exact g_part _ | exact g_enc _)
local macro_rules | `(tactic| walk_at "bl") => `(tactic| with_reducible first | exact b_range | exact b_sum | exact b_next | exact b_enum | exact b_Stop | exact b_VE)
theorem join_cat : ∀ ps : List Str, Txt.join (Str.ofString "") ps = catS ps := by
  intro ps
  have h : ∀ ps : List Str, Str.join (Str.ofString "") ps = catS ps := by
    intro ps
    induction ps with
    | nil => rfl
    | cons p ps ih =>
      cases ps with
      | nil => rw [catS_cons, catS_nil, st_e]; rfl
      | cons q ps =>
        show p ++ Str.ofString "" ++ Str.join (Str.ofString "") (q :: ps) = _
        rw [ih, catS_cons p, st_e]
  show Builtin.Str.glued _ _ = _
  rw [StrLaws.glued_eq_join, h]
theorem joinOk_of {ps : List Str} (h : (catS ps).length ≤ 100000) : JoinOk (Str.ofString "") ps = true := by
  have e : ∀ (ps : List Str) (a : Nat), ps.foldl (fun x (s : Str) => x + s.length + (Str.ofString "").length) a = a + (ps.map Str.length).sum := by
    intro ps
    induction ps with
    | nil => intro a; simp
    | cons p ps ih =>
      intro a
      rw [List.foldl_cons, ih, List.map_cons, List.sum_cons]
      have : (Str.ofString "").length = 0 := by decide
      omega
  unfold JoinOk Builtin.Str.tooLong
  rw [List.foldl_toArray, e, Nat.zero_add, ← catS_len, sizeLine_eq]
  simp; omega
theorem starts_self (a b : Str) : Txt.startswith (a ++ b) a = true := by
  have h1 : (a ++ b).length = a.length + b.length := str_len a b
  have h2 : Builtin.Str.subAt (a ++ b) a 0 = true := by
    unfold Builtin.Str.subAt
    show ((a.cps ++ b.cps).extract 0 (0 + a.length) == a.cps) = true
    rw [Nat.zero_add]
    have : (a.cps ++ b.cps).extract 0 a.length = a.cps := by
      have e : a.length = a.cps.size := rfl
      rw [e]
      simp
    rw [this]
    exact beq_self_eq_true _
  show (decide (0 + a.length ≤ (a ++ b).length) && Builtin.Str.subAt (a ++ b) a 0) = true
  rw [h2, decide_eq_true (by omega)]; rfl
theorem tolds_cat {t : Th} {ns : List Int} (to : t.Ok) {i : Nat} (hi : i < t.sz) : (catS (tolds t ns i).1) = (walkT t (indI ns) 4 i 0 []).1 ∧ (tolds t ns i).2 = (walkT t (indI ns) 4 i 0 []).2 ∧ (catS (tolds t ns i).1).length ≤ 100000 := by
  obtain ⟨h1, h2⟩ := told_cat (ind := indI ns) to 4 i 0 [] hi
  have h3 := walkT_len (ind := indI ns) to indOf_len 4 i 0 [] hi (by decide)
  refine ⟨h1, h2, ?_⟩
  rw [h1]
  have : 200 * 4 ^ 4 = 51200 := by decide
  omega
theorem tolds_len {t : Th} {ns : List Int} (to : t.Ok) (hsz : t.sz ≤ 3) {i : Nat} (hi : i < t.sz) : (tolds t ns i).1.length ≤ 196 := told_len (ind := indI ns) to hsz 4 i 0 [] hi List.nodup_nil (fun j hj => nomatch hj) rfl
section
variable {B : Bx} {A : Around} {Ψ : Value → SH → Prop} {σ τ S R T : SH} {env : Env} {t : Th} {K : Kd}
-- behind the order: every run but the one left is at its end
theorem law_s16 {F : Option Value → Option Value → List (Option Value)} {to en gi ru ol : Addr} {ns : List Int} {qs : List Value} {os : List Ord} {rs : List Run} {k1 k2 k3 e1 e2 e3 g1 g2 g3 : Tok} {a b : Option Value} {Sh : SH} {Φ : Flow → SH → Prop}
    (E : EnvOk env lawKs lawFs) (GE : GlbOk env lawGs) (lf : LF F to en gi ru) (hol : ∀ a b, NAt (Str.ofString "order") (.ref ol) lawKs (F a b)) (hh : A.handled = none) (hr : Roomy A 45) (hfr : A.frames = some [env]) (hf : env.frame = some env.locals)
    (hto : t.Ok) (hsz : (t.sz : Int) = szI ns) (mru : Cl.o ru (listP qs) ∈ σ) (mol : Cl.o ol (listP (os.map fun o => .ref o.ad)) ∈ σ) (mor : ∀ c ∈ ordC os, c ∈ σ) (hos : os.map Ord.rs = ordI ns)
    (hR : RsOk B t S ns σ qs rs) (h0 : ∀ r ∈ rs, r.en = 0 ∧ r.dn = []) (hSh : I73 Sh)
    (y : ∀ rs tv ev gv Sh a b, RsOk B t S ns σ qs rs → Vals rs tv ev gv → I73 Sh → (∀ (k : Nat) (r : Run), rs[k]? = some r → r.en = 0 → (k : Int) = leftI ns) →
      Sw B A (execs ((fnBody lawSt).drop 17) env) Φ NoE (.o env.locals (frameP lawKs (F a b)) :: .o to (listW tv) :: .o en (listW ev) :: .o gi (listW gv) :: (liveS rs ++ (Sh ++ σ)))) :
    Sw B A (execs ((fnBody lawSt).drop 16) env) Φ NoE (.o env.locals (frameP lawKs (F a b)) :: .o to (listP [.str (Str.ofString "") k1, .str (Str.ofString "") k2, .str (Str.ofString "") k3]) :: .o en (listP [.int 0 e1, .int 0 e2, .int 0 e3]) :: .o gi (listP [.int 0 g1, .int 0 g2, .int 0 g3]) :: (liveS rs ++ (Sh ++ σ))) := by
  have hsz3 : t.sz ≤ 3 := by rcases szI_or ns with h | h <;> omega
  have hl1 := Int.fmod_nonneg_of_pos (trn ns) (b := 3) (by decide)
  have hl2 := Int.fmod_lt_of_pos (trn ns) (b := 3) (by decide)
  refine Sw.weak (.tail .head) (fun o => listW_of) ?_
  refine Sw.weak (.tail (.tail .head)) (fun o => listW_of) ?_
  refine Sw.weak (.tail (.tail (.tail .head))) (fun o => listW_of) ?_
  have hv : Vals rs [.str (Str.ofString "") k1, .str (Str.ofString "") k2, .str (Str.ofString "") k3] [.int 0 e1, .int 0 e2, .int 0 e3] [.int 0 g1, .int 0 g2, .int 0 g3] := by
    have hlen := hR.len
    refine ⟨hlen.symm, hlen.symm, hlen.symm, fun k r hk => ?_, fun k r hk => ?_, fun k r hk => ?_⟩
    all_goals
      have hm := h0 r (List.mem_of_getElem? hk)
      have hk3 : k < 3 := by rw [← hlen]; exact (List.getElem?_eq_some_iff.mp hk).1
    · rw [hm.2]
      match k, hk3 with
      | 0, _ => exact ⟨_, rfl⟩
      | 1, _ => exact ⟨_, rfl⟩
      | 2, _ => exact ⟨_, rfl⟩
    · rw [hm.1]
      match k, hk3 with
      | 0, _ => exact ⟨_, rfl⟩
      | 1, _ => exact ⟨_, rfl⟩
      | 2, _ => exact ⟨_, rfl⟩
    · rw [hm.2]
      match k, hk3 with
      | 0, _ => exact ⟨_, rfl⟩
      | 1, _ => exact ⟨_, rfl⟩
      | 2, _ => exact ⟨_, rfl⟩
  have hcat : ∀ k, k < 3 → (catS (tolds t ns (rootN ns k)).1).length ≤ 100000 := fun k _ => (tolds_cat hto (root_lt hsz)).2.2
  have hbnd : ∀ o ∈ os, 0 ≤ o.r ∧ o.r < 3 ∧ 0 ≤ o.s := by
    intro o ho
    have hm : o.rs ∈ ordI ns := by rw [← hos]; exact List.mem_map_of_mem ho
    unfold ordI at hm
    rcases List.mem_append.mp hm with hm | hm
    · obtain ⟨x, _, hx⟩ := List.mem_map.mp hm
      have a1 : (x.fdiv 2).fmod 3 = o.r := congrArg Prod.fst hx
      have a2 : 1 + x.fmod 4 = o.s := congrArg Prod.snd hx
      have b1 := Int.fmod_nonneg_of_pos (x.fdiv 2) (b := 3) (by decide)
      have b2 := Int.fmod_lt_of_pos (x.fdiv 2) (b := 3) (by decide)
      have b3 := Int.fmod_nonneg_of_pos x (b := 4) (by decide)
      omega
    · have c1 := Int.fmod_nonneg_of_pos (leftI ns + 1) (b := 3) (by decide)
      have c2 := Int.fmod_lt_of_pos (leftI ns + 1) (b := 3) (by decide)
      have d1 := Int.fmod_nonneg_of_pos (leftI ns + 2) (b := 3) (by decide)
      have d2 := Int.fmod_lt_of_pos (leftI ns + 2) (b := 3) (by decide)
      simp only [List.mem_cons, List.not_mem_nil, or_false] at hm
      rcases hm with hm | hm
      · have a1 : o.r = (leftI ns + 1).fmod 3 := congrArg Prod.fst hm
        have a2 : o.s = 400 := congrArg Prod.snd hm
        omega
      · have a1 : o.r = (leftI ns + 2).fmod 3 := congrArg Prod.fst hm
        have a2 : o.s = 400 := congrArg Prod.snd hm
        omega
  have fin : ∀ rs : List Run, RsOk B t S ns σ qs rs → Driven os rs → ∀ (k : Nat) (r : Run), rs[k]? = some r → r.en = 0 → (k : Int) = leftI ns := by
    intro rs hR hD k r hk h0
    have hk3 : k < 3 := by rw [← hR.len]; exact (List.getElem?_eq_some_iff.mp hk).1
    have hps := (hR.ok k r hk).1.ps
    have hpl := tolds_len (ns := ns) hto hsz3 (root_lt (k := k) hsz)
    have hdl : r.dn.length ≤ 196 := by rw [← hps, List.length_append] at hpl; omega
    have key : ∀ v : Int, (v, 400) ∈ ordI ns → (k : Int) ≠ v := by
      intro v hv hkv
      rw [← hos] at hv
      obtain ⟨o, ho, hov⟩ := List.mem_map.mp hv
      have a1 : o.r = v := congrArg Prod.fst hov
      have a2 : o.s = 400 := congrArg Prod.snd hov
      have := hD o ho r (by rw [a1, ← hkv, Int.toNat_natCast]; exact hk) h0
      omega
    have k1 := key ((leftI ns + 1).fmod 3) (by unfold ordI; simp)
    have k2 := key ((leftI ns + 2).fmod 3) (by unfold ordI; simp)
    have hl : leftI ns = 0 ∨ leftI ns = 1 ∨ leftI ns = 2 := by unfold leftI; omega
    rcases hl with h | h | h <;> rw [h] at k1 k2 ⊢ <;> (simp at k1 k2; omega)
  refine Sw.execs_cons (Sw.s_For ?_)
  refine Sw.ld E (hol _ _) ?_
  refine Sw.iter_list (vs := os.map fun o => .ref o.ad) (.tail _ (.tail _ (.tail _ (.tail _ (List.mem_append_right _ (List.mem_append_right _ mol)))))) fun it => ?_
  refine Sc.sub' (ord_loop (σ := σ) (it := it) (oall := os) (ol := ol) E GE lf hh hr hfr hf mru hcat mol (fun o ho => mor _ (List.mem_map.mpr ⟨o, ho, rfl⟩)) hbnd (fun rs tv ev gv Sh a b hR hv hSh hD => ?_) os [] rfl rs _ _ _ Sh a b hR hv hSh (fun o ho => nomatch ho)) (by simp only [List.length_nil]; walk_at "subp")
  exact y rs tv ev gv Sh a b hR hv hSh (fin rs hR hD)
end
end

-- NI
section
local macro_rules | `(tactic| walk_at "gl") => `(tactic| with_reducible first | exact g_names _ | exact g_words _ | exact g_walk _ | exact g_same _ | exact g_part _ | exact g_enc _)
local macro_rules | `(tactic| walk_at "bl") => `(tactic| with_reducible first | exact b_range | exact b_sum | exact b_next | exact b_enum | exact b_Stop | exact b_VE)
local macro_rules | `(tactic| walk_at "subc") => `(tactic| (refine Subp.of_cnt fun _ => ?_; simp only [compEnvC, cstate, cnt_append, cnt_cons, cnt_nil, List.map_nil, List.map_cons]; omega))
structure Wb where
  ad : Addr
  k : Tok
  i : Nat
abbrev wkOf (t : Th) (ns : List Int) (i : Nat) : Str × Bool := walkT t (indI ns) 4 i 0 []
def wbC (t : Th) (ns : List Int) (bs : List Wb) : SH := bs.map fun b => .o b.ad (tupP [.str (wkOf t ns b.i).1 b.k, .bool (wkOf t ns b.i).2])
def lcWalks : Expr := asgVal (lawAt 17)
@[reducible] def wcFs : List Str := ["kinds", "indent"]
theorem walks_comp {env : Env} {c1 c2 c3 c4 c5 c6 c7 : Addr} (hs : env.scope = fnScope lawSt) (CE : env.cells = lawFs.zip [c1, c2, c3, c4, c5, c6, c7]) : CompOk env (lcScope lcWalks) (wcFs.zip [c4, c2]) ["i"] wcFs :=
  CompOk.of hs (by unfold closureFor cellOf; rw [CE]; rfl) (by decide +kernel)
section
variable {B : Bx} {A : Around} {Ψ : Value → SH → Prop} {σ τ S R T : SH} {env : Env} {t : Th} {K : Kd}
theorem law_s17 {ns : List Int} {ki ks : Tok} {kl tl : Addr} {wv : Option Value} {fr : List (Option Value)} {fr' : Addr → List (Option Value)} {iv xv : Option Value} {c1 c2 c3 c4 c5 c6 c7 : Addr} {Φ : Flow → SH → Prop} (E : EnvOk env lawKs lawFs) (GE : GlbOk env lawGs) (hs : env.scope = fnScope lawSt) (CE : env.cells = lawFs.zip [c1, c2, c3, c4, c5, c6, c7]) (hh : A.handled = none) (hr : Roomy A 6)
    (hp : ∀ a, NPut (Str.ofString "walks") (.ref a) lawKs fr (fr' a)) (to : t.Ok) (hsz : (t.sz : Int) = szI ns) (kok : KdOk K t σ)
    (y : ∀ wk bs ρ, bs.map Wb.i = List.range t.sz → Sw B A (execs ((fnBody lawSt).drop 18) env) Φ NoE (.o env.locals (frameP lawKs (fr' wk)) ::
      lawCs c1 c2 c3 c4 c5 c6 c7 wv (some (indV (indI ns) ki)) iv (some (.ref K.kl)) (some (.ref tl)) (some (.int (szI ns) ks)) xv (.o wk (listP (bs.map fun b => .ref b.ad)) :: (wbC t ns bs ++ (ρ ++ σ))))) :
    Sw B A (execs ((fnBody lawSt).drop 17) env) Φ NoE (.o env.locals (frameP lawKs fr) ::
      lawCs c1 c2 c3 c4 c5 c6 c7 wv (some (indV (indI ns) ki)) iv (some (.ref K.kl)) (some (.ref tl)) (some (.int (szI ns) ks)) xv σ) := by
  have hsz3 : t.sz ≤ 3 := by rcases szI_or ns with h | h <;> omega
  refine Sw.execs_cons (Sw.s_Assign_Comp (walks_comp hs CE) E ?_)
  refine Sw.e_Call_Name ?_
  walk_at "py"
  refine ⟨trivial, Sw.call_range fun rg => ?_⟩
  rw [← hsz]
  refine Sw.iter_range (n := (t.sz : Int)) (by omega) (by omega) (.tail _ (.head _)) fun it => ?_
  intro acc C
  refine ⟨Sw.iter_ri (x := 0) (left := (t.sz : Int)) (by walk_at "mem") ⟨rfl, rfl⟩, ?_⟩
  have EC := (walks_comp hs CE).env C
  have GC : GlbOk (compEnvC (lcScope lcWalks) (wcFs.zip [c4, c2]) C env) ["_law_walk"] := comp_glb hs GE (by decide +kernel)
  have CC : (compEnvC (lcScope lcWalks) (wcFs.zip [c4, c2]) C env).cells = wcFs.zip [c4, c2] := rfl
  generalize hce : compEnvC (lcScope lcWalks) (wcFs.zip [c4, c2]) C env = cenv at EC GC CC
  have hC : C = cenv.locals := by rw [← hce]; rfl
  refine Sc.sub' (τ := .o cenv.locals (frameP ["i"] [none]) :: .o it (riP ((0 : Nat) : Int) ((t.sz : Int) - ((0 : Nat) : Int))) :: .o acc (listP []) :: (wbC t ns [] ++ ([] ++ (.o env.locals (frameP lawKs fr) :: lawCs c1 c2 c3 c4 c5 c6 c7 wv (some (indV (indI ns) ki)) iv (some (.ref K.kl)) (some (.ref tl)) (some (.int (t.sz : Int) ks)) xv σ)))) ?_ (by rw [← hC]; simp only [wbC, Int.sub_zero, Int.ofNat_zero, Int.natCast_zero, List.nil_append]; walk_at "subc")
  show Sc B A (.compLoop (lcOf lcWalks) 0 (.ref it) (.ref acc) (compEnvC (lcScope lcWalks) (wcFs.zip [c4, c2]) C env)) _ _
  rw [hce]
  refine Sc.compR (m := t.sz) EC hh (by omega) (fun i ws ρ => ∃ bs jk, bs.map Wb.i = List.range i ∧ ws = bs.map (fun b => .ref b.ad) ∧ ρ = wbC t ns bs ++ (jk ++ (.o env.locals (frameP lawKs fr) :: lawCs c1 c2 c3 c4 c5 c6 c7 wv (some (indV (indI ns) ki)) iv (some (.ref K.kl)) (some (.ref tl)) (some (.int (t.sz : Int) ks)) xv σ)))
    (fun i ws ρ h => by
      obtain ⟨bs, jk, h1, rfl, _⟩ := h
      have := congrArg List.length h1
      simpa using this) (fun i k ws ρ hi hJ => ?_) (fun ws ρ u hJ => ?_) t.sz 0 [] _ none (by omega) ⟨[], [], rfl, rfl, rfl⟩
  · obtain ⟨bs, jk, h1, rfl, rfl⟩ := hJ
    have hm : ∀ {c : Cl}, c ∈ (.o env.locals (frameP lawKs fr) :: lawCs c1 c2 c3 c4 c5 c6 c7 wv (some (indV (indI ns) ki)) iv (some (.ref K.kl)) (some (.ref tl)) (some (.int (t.sz : Int) ks)) xv σ) → c ∈ (wbC t ns bs ++ (jk ++ (.o env.locals (frameP lawKs fr) :: lawCs c1 c2 c3 c4 c5 c6 c7 wv (some (indV (indI ns) ki)) iv (some (.ref K.kl)) (some (.ref tl)) (some (.int (t.sz : Int) ks)) xv σ))) :=
      fun h => List.mem_append_right _ (List.mem_append_right _ h)
    show Sw B A (eval (.Call (.Name _ _) _ [] _) cenv) _ _ _
    refine Sw.e_Call_Name ?_
    refine Sw.ldgE GC (by walk_at "mem") (g_walk _) ?_
    refine ⟨rfl, Args.cons ?_⟩
    refine Sw.ldc EC CC .head (v := .ref K.kl) (.tail _ (.tail _ (.tail _ (hm (.tail _ (.tail _ (.tail _ (.tail _ (.head _))))))))) ?_
    refine Args.cons (Sw.ld EC .head ?_)
    refine Args.cons (Sw.e_Const_int fun k0 => ?_)
    refine Args.cons (Sw.e_Tuple (Args.nil ⟨by decide, _, _, rfl, fun tp => ?_⟩))
    refine Args.cons ?_
    refine Sw.ldc EC CC (.tail .head) (v := indV (indI ns) ki) (.tail _ (.tail _ (.tail _ (.tail _ (hm (.tail _ (.tail _ (.head _)))))))) ?_
    refine Args.nil ⟨callee_K rfl rfl, ?_⟩
    have kok' : KdOk K t (.o cenv.locals (frameP ["i"] [some (.int (i : Int) k)]) :: .o tp (tupP []) :: .o it (riP ((i : Int) + 1) ((t.sz : Int) - (i : Int) - 1)) :: .o acc (listP (bs.map fun b => .ref b.ad)) :: (wbC t ns bs ++ (jk ++ (.o env.locals (frameP lawKs fr) :: lawCs c1 c2 c3 c4 c5 c6 c7 wv (some (indV (indI ns) ki)) iv (some (.ref K.kl)) (some (.ref tl)) (some (.int (t.sz : Int) ks)) xv σ)))) :=
      kok.mono fun c hc => .tail _ (.tail _ (.tail _ (.tail _ (hm (.tail _ (.tail _ (.tail _ (.tail _ (.tail _ (.tail _ (.tail _ (.tail _ hc))))))))))))
    refine lw_call to hsz3 (ind := indI ns) indOf_len 4 A i 0 [] k k0 tp [] _ _ _ NoE rfl rfl List.nodup_nil (fun j hj => nomatch hj) hi hh (hr.le (by omega)) kok' (.tail _ (.head _)) .nil fun k2 b ρ2 => ?_
    refine ⟨wbC t ns (bs ++ [⟨b, k2, i⟩]) ++ ((ρ2 ++ (.o tp (tupP []) :: jk)) ++ (.o env.locals (frameP lawKs fr) :: lawCs c1 c2 c3 c4 c5 c6 c7 wv (some (indV (indI ns) ki)) iv (some (.ref K.kl)) (some (.ref tl)) (some (.int (t.sz : Int) ks)) xv σ)), ?_, bs ++ [⟨b, k2, i⟩], ρ2 ++ (.o tp (tupP []) :: jk), by rw [List.map_append, h1, List.range_succ]; rfl, by simp, rfl⟩
    simp only [wbC, wkOf, List.map_append, List.map_cons, List.map_nil]
    walk_at "subc"
  · obtain ⟨bs, jk, h1, rfl, rfl⟩ := hJ
    refine ⟨rfl, [u], fr, _, .o acc (listP (bs.map fun b => .ref b.ad)) :: lawCs c1 c2 c3 c4 c5 c6 c7 wv (some (indV (indI ns) ki)) iv (some (.ref K.kl)) (some (.ref tl)) (some (.int (t.sz : Int) ks)) xv (wbC t ns bs ++ (jk ++ σ)), (by rw [hC]; walk_at "subc"), hp acc, ?_⟩
    rw [hsz]
    exact Sw.subp (y acc bs jk h1) (by walk_at "subc")
-- the things and kinds are as they were built
theorem law_same {ns : List Int} {tl : Addr} {fr : List (Option Value)} {e : Expr} {pos : Pos} {c4 c5 : Addr} {fs : List Str} {Φ : Value → SH → Prop} (E : EnvOk env lawKs lawFs) (GE : GlbOk env lawGs) {c1 c2 c3 c6 c7 : Addr} (CE : env.cells = lawFs.zip [c1, c2, c3, c4, c5, c6, c7]) (hh : A.handled = none) (hr : Roomy A 2)
    {wv nv iv sv xv : Option Value} (to : t.Ok) (hsz : t.sz ≤ 3) (lo : LsOk B tl K t σ) {np p1 p2 : Pos}
    (y : Φ (.bool true) (.o env.locals (frameP lawKs fr) :: lawCs c1 c2 c3 c4 c5 c6 c7 wv nv iv (some (.ref K.kl)) (some (.ref tl)) sv xv σ)) :
    Sw B A (eval (.Call (.Name (Str.ofString "_law_same") np) [.Name (Str.ofString "things") p1, .Name (Str.ofString "kinds") p2] [] pos) env) Φ Ψ (.o env.locals (frameP lawKs fr) :: lawCs c1 c2 c3 c4 c5 c6 c7 wv nv iv (some (.ref K.kl)) (some (.ref tl)) sv xv σ) := by
  refine Sw.e_Call_Name ?_
  refine Sw.ldgE GE (by walk_at "mem") (g_same _) ?_
  refine ⟨rfl, Args.cons ?_⟩
  refine Sw.ldc E CE (.tail (.tail (.tail (.tail .head)))) (v := .ref tl) (.tail _ (.tail _ (.tail _ (.tail _ (.tail _ (.head _)))))) ?_
  refine Args.cons ?_
  refine Sw.ldc E CE (.tail (.tail (.tail .head))) (v := .ref K.kl) (.tail _ (.tail _ (.tail _ (.tail _ (.head _))))) ?_
  refine Args.nil ⟨callee_K rfl rfl, ?_⟩
  exact same_call (t := t) (lo.mono fun c hc => .tail _ (.tail _ (.tail _ (.tail _ (.tail _ (.tail _ (.tail _ (.tail _ hc)))))))) to hsz hh hr y
end
end

-- NJ
section
local macro_rules | `(tactic| walk_at "gl") => `(tactic| with_reducible first | exact g_names _ | exact g_words _ | exact g_walk _ | exact g_same _ | exact g_part _ | exact g_enc _)
local macro_rules | `(tactic| walk_at "bl") => `(tactic| with_reducible first | exact b_range | exact b_sum | exact b_next | exact b_enum | exact b_Stop | exact b_VE)
def law19 : Stmt := lawAt 19
def stAt' (s : Stmt) (i : Nat) : Stmt := ((forBdy s)[i]?).getD (.Pass default)
-- how the frame is looked at from here on; good is true
structure LG (F : Option Value → Option Value → Option Value → Option Value → List (Option Value)) (to en gi wk : Addr) (left : Value) : Prop where
  to : ∀ a b c d, NAt (Str.ofString "told") (.ref to) lawKs (F a b c d)
  en : ∀ a b c d, NAt (Str.ofString "ended") (.ref en) lawKs (F a b c d)
  gi : ∀ a b c d, NAt (Str.ofString "given") (.ref gi) lawKs (F a b c d)
  wk : ∀ a b c d, NAt (Str.ofString "walks") (.ref wk) lawKs (F a b c d)
  left : ∀ a b c d, NAt (Str.ofString "left") left lawKs (F a b c d)
  good : ∀ a b c d, NAt (Str.ofString "good") (.bool true) lawKs (F a b c d)
  pg : ∀ a b c d, NPut (Str.ofString "good") (.bool true) lawKs (F a b c d) (F a b c d)
  pj : ∀ a b c d v, NPut (Str.ofString "j") v lawKs (F a b c d) (F (some v) b c d)
  pr : ∀ a b c d v, NPut (Str.ofString "r") v lawKs (F a b c d) (F a (some v) c d)
  pt : ∀ a b c d v, NPut (Str.ofString "text") v lawKs (F a b c d) (F a b (some v) d)
  pi : ∀ a b c d v, NPut (Str.ofString "ring") v lawKs (F a b c d) (F a b c (some v))
  j : ∀ v b c d, NAt (Str.ofString "j") v lawKs (F (some v) b c d)
  r : ∀ a v c d, NAt (Str.ofString "r") v lawKs (F a (some v) c d)
  text : ∀ a b v d, NAt (Str.ofString "text") v lawKs (F a b (some v) d)
  ring : ∀ a b c v, NAt (Str.ofString "ring") v lawKs (F a b c (some v))
section
variable {B : Bx} {A : Around} {Ψ : Value → SH → Prop} {σ τ S R T : SH} {env : Env} {t : Th} {K : Kd}
theorem Sw.eqStr {a b : Str} {j k : Tok} {Φ : Value → SH → Prop} (x : Φ (.bool (a == b)) σ) : Sw B A (compareOp .Eq (.str a j) (.str b k)) Φ Ψ σ := fun h g d tk O => by
  refine eq_str (.mk O ?_)
  have e : (a.cps.toList == b.cps.toList) = (a == b) := by
    rw [Bool.eq_iff_iff, beq_iff_eq, beq_iff_eq]
    constructor
    · intro h
      obtain ⟨x⟩ := a
      obtain ⟨y⟩ := b
      have := Array.toList_inj.mp h
      exact congrArg Str.mk this
    · intro h; rw [h]
  first | exact x | (rw [e]; exact x)
theorem Sw.notV {v : Value} {Φ : Value → SH → Prop} (x : Sw B A (truthy v) (fun b τ => Φ (.bool (!b)) τ) Ψ σ) : Sw B A (unaryOp .Not v) Φ Ψ σ := fun h g d tk O => not_value (wpAny_mono (x h g d tk O) (fun _ _ q => q) fun _ _ q => q)
theorem law19_turn {F : Option Value → Option Value → Option Value → Option Value → List (Option Value)} {to en gi wk tl : Addr} {lk : Tok} {ns : List Int} {rs : List Run} {k : Nat} {r : Run} {tv ev gv wv : List Value} {kj kr : Tok} {a b c d : Option Value} {bk : Addr} {tk : Tok} {c1 c2 c3 c4 c5 c6 c7 : Addr} {wv' nv iv sv xv : Option Value} {Φ : Flow → SH → Prop}
    (E : EnvOk env lawKs lawFs) (GE : GlbOk env lawGs) (CE : env.cells = lawFs.zip [c1, c2, c3, c4, c5, c6, c7]) (lg : LG F to en gi wk (.int (leftI ns) lk)) (hh : A.handled = none) (hto : t.Ok) (hsz : (t.sz : Int) = szI ns)
    (kok : KdOk K t σ) (hk : k < 3) (hrk : rs[k]? = some r) (ok : RunOk B t S (tolds t ns (rootN ns k)).1 (tolds t ns (rootN ns k)).2 r) (hv : Vals rs tv ev gv) (hleft : r.en = 0 → (k : Int) = leftI ns)
    (mto : Cl.o to (listW tv) ∈ σ) (men : Cl.o en (listW ev) ∈ σ) (mgi : Cl.o gi (listW gv) ∈ σ) (mwk : Cl.o wk (listP wv) ∈ σ) (hw : wv[rootN ns k]? = some (.ref bk)) (mb : Cl.o bk (tupP [.str (wkOf t ns (rootN ns k)).1 tk, .bool (wkOf t ns (rootN ns k)).2]) ∈ σ)
    (y : ∀ c d, Φ .next (.o env.locals (frameP lawKs (F (some (.int k kj)) (some (.int (rootI ns k) kr)) c d)) :: lawCs c1 c2 c3 c4 c5 c6 c7 wv' nv iv (some (.ref K.kl)) (some (.ref tl)) sv xv σ)) :
    Sw B A (execs (forBdy law19) env) Φ NoE (.o env.locals (frameP lawKs (F (some (.int k kj)) (some (.int (rootI ns k) kr)) c d)) :: lawCs c1 c2 c3 c4 c5 c6 c7 wv' nv iv (some (.ref K.kl)) (some (.ref tl)) sv xv σ) := by
  have hsz3 : t.sz ≤ 3 := by rcases szI_or ns with h | h <;> omega
  have up : ∀ {c : Cl} {fr : List (Option Value)}, c ∈ σ → c ∈ .o env.locals (frameP lawKs fr) :: lawCs c1 c2 c3 c4 c5 c6 c7 wv' nv iv (some (.ref K.kl)) (some (.ref tl)) sv xv σ :=
    fun hc => .tail _ (.tail _ (.tail _ (.tail _ (.tail _ (.tail _ (.tail _ (.tail _ hc)))))))
  have hrb := root_bnd (ns := ns) (k := k)
  have hrl : rootN ns k < t.sz := root_lt hsz
  have her : rootI ns k = ((rootN ns k : Nat) : Int) := by unfold rootN; omega
  obtain ⟨hcat, hring, hclen⟩ := tolds_cat (ns := ns) hto hrl
  obtain ⟨k1, hk1⟩ := hv.t k r hrk
  obtain ⟨k2, hk2⟩ := hv.e k r hrk
  obtain ⟨k3, hk3⟩ := hv.g k r hrk
  have hen := ok.en
  rw [her]
  rw [her] at y
  refine Sw.execs_cons (Sw.s_Assign_Tuple ?_)
  refine Sw.e_Subscript (Sw.ld E (lg.wk _ _ _ _) (Sw.ld E (lg.r _ _ _ _) ?_))
  refine atL (vs := wv) (up mwk) (by omega) (by omega) (by simpa using hw) ?_
  refine Sw.assign_pair hh (up mb) ?_
  refine Sw.assign_Name (Sw.st E (lg.pt _ _ _ _ _) (Sw.assign_Name (Sw.st E (lg.pi _ _ _ _ _) ?_)))
  refine Sw.execs_cons (Sw.s_If ?_)
  refine Sw.isTrue_Compare (Sw.e_Subscript (Sw.ld E (lg.en _ _ _ _) (Sw.ld E (lg.j _ _ _ _) ?_)))
  refine ⟨⟨"list", _, PySem.F.slot_list_getitem.lookup, TyIs.own (P := listW ev) (up men) (fun o h => h.1)⟩, Sw.idxW (vs := ev) (up men) (by omega) (by omega) (by simpa using hk2) (Sw.e_Const_int fun q1 => Sw.eqI (Sw.truthy_bool ?_))⟩
  by_cases h0 : r.en = 0
  · refine ite_pos (by simp [h0]) ?_
    refine Sw.execs_cons (Sw.s_Assign_Name (Sw.e_And (Sw.ld E (lg.good _ _ _ _) (Sw.truthy_bool (ite_pos rfl ?_)))))
    refine Sw.e_And (Sw.e_Compare (Sw.ld E (lg.j _ _ _ _) (Sw.ld E (lg.left _ _ _ _) (Sw.eqI (Sw.truthy_bool (ite_pos ?_ ?_))))))
    · simpa using hleft h0
    refine Sw.e_Bool1 ?_
    refine Sw.e_Call_Meth PySem.F.plainAttrs_str PySem.F.slot_str_startswith PySem.F.type_str_startswith ?_
    refine Sw.ld E (lg.text _ _ _ _) ⟨MethOn.str, Args.cons ?_⟩
    refine Sw.e_Subscript (Sw.ld E (lg.to _ _ _ _) (Sw.ld E (lg.j _ _ _ _) ?_))
    refine ⟨⟨"list", _, PySem.F.slot_list_getitem.lookup, TyIs.own (P := listW tv) (up mto) (fun o h => h.1)⟩, Sw.idxW (vs := tv) (up mto) (by omega) (by omega) (by simpa using hk1) (Args.nil (Sw.startsw ?_))⟩
    have e1 : Txt.startswith (wkOf t ns (rootN ns k)).1 (catS r.dn) = true := by
      rw [show (wkOf t ns (rootN ns k)).1 = catS r.dn ++ catS r.rem by rw [← hcat, ← ok.ps, catS_append]]
      exact starts_self _ _
    rw [e1]
    refine Sw.st E (lg.pg _ _ _ _) (Sw.execs_nil (Sw.execs_nil ?_))
    exact y _ _
  · refine ite_neg (by simpa using h0) ?_
    have hrem : r.rem = [] := by
      have : r.en = 1 ∨ r.en = 2 := by omega
      rcases this with h | h
      · exact (ok.en1 h).2
      · exact (ok.en2 h).2
    have hdn : r.dn = (tolds t ns (rootN ns k)).1 := by rw [← ok.ps, hrem, List.append_nil]
    have hrg : r.ring = (wkOf t ns (rootN ns k)).2 := ok.ring.trans hring
    refine Sw.execs_cons (Sw.s_Assign_Name (Sw.e_And (Sw.ld E (lg.good _ _ _ _) (Sw.truthy_bool (ite_pos rfl ?_)))))
    refine Sw.e_And (Sw.e_Compare ?_)
    refine Sw.e_Subscript (Sw.ld E (lg.to _ _ _ _) (Sw.ld E (lg.j _ _ _ _) ?_))
    refine ⟨⟨"list", _, PySem.F.slot_list_getitem.lookup, TyIs.own (P := listW tv) (up mto) (fun o h => h.1)⟩, Sw.idxW (vs := tv) (up mto) (by omega) (by omega) (by simpa using hk1) (Sw.ld E (lg.text _ _ _ _) (Sw.eqStr (Sw.truthy_bool (ite_pos ?_ ?_))))⟩
    · rw [hdn, hcat]; exact beq_self_eq_true _
    refine Sw.e_Bool1 (Sw.e_Compare ?_)
    refine Sw.e_Subscript (Sw.ld E (lg.en _ _ _ _) (Sw.ld E (lg.j _ _ _ _) ?_))
    refine ⟨⟨"list", _, PySem.F.slot_list_getitem.lookup, TyIs.own (P := listW ev) (up men) (fun o h => h.1)⟩, Sw.idxW (vs := ev) (up men) (by omega) (by omega) (by simpa using hk2) (Sw.e_IfExp (Sw.isTrue_Name (Sw.ld E (lg.ring _ _ _ _) (Sw.truthy_bool ?_))))⟩
    -- the second statement
    have rest : Sw B A (execs [((match (stAt' law19 1) with | .If _ _ o _ => o | _ => [])[1]?).getD (.Pass default)] env) (fun f τ => match f with | .next => Φ .next τ | f => Φ f τ) NoE (.o env.locals (frameP lawKs (F (some (.int k kj)) (some (.int ((rootN ns k : Nat) : Int) kr)) (some (.str (wkOf t ns (rootN ns k)).1 tk)) (some (.bool (wkOf t ns (rootN ns k)).2)))) :: lawCs c1 c2 c3 c4 c5 c6 c7 wv' nv iv (some (.ref K.kl)) (some (.ref tl)) sv xv σ) := by
      show Sw B A (execs [.Assign _ _ _] env) _ NoE _
      refine Sw.execs_cons (Sw.s_Assign_Name (Sw.e_And (Sw.ld E (lg.good _ _ _ _) (Sw.truthy_bool (ite_pos rfl (Sw.e_Bool1 ?_))))))
      refine Sw.e_Or (Sw.ld E (lg.ring _ _ _ _) (Sw.truthy_bool ?_))
      cases hb : (wkOf t ns (rootN ns k)).2 with
      | true =>
        refine ite_pos rfl ?_
        exact Sw.st E (lg.pg _ _ _ _) (Sw.execs_nil (y _ _))
      | false =>
        refine ite_neg Bool.false_ne_true ?_
        refine Sw.e_Or (Sw.e_Compare (Sw.e_Subscript (Sw.ld E (lg.gi _ _ _ _) (Sw.ld E (lg.j _ _ _ _) ?_))))
        refine ⟨⟨"list", _, PySem.F.slot_list_getitem.lookup, TyIs.own (P := listW gv) (up mgi) (fun o h => h.1)⟩, Sw.idxW (vs := gv) (up mgi) (by omega) (by omega) (by simpa using hk3) (Sw.e_Const_int fun q2 => Sw.gtI (Sw.truthy_bool ?_))⟩
        by_cases hp : t.pt (rootN ns k) = []
        · have hlen : r.dn.length = 1 := by
            rw [hdn]
            show (told t (indI ns) 4 (rootN ns k) 0 []).1.length = 1
            rw [told_empty hp]; rfl
          rw [hlen]
          refine ite_neg (by decide) ?_
          refine Sw.e_Bool1 (Sw.e_UnaryOp ?_)
          refine Sw.e_SubscriptA (Sw.e_Subscript ?_)
          refine Sw.ldc E CE (.tail (.tail (.tail .head))) (v := .ref K.kl) (.tail _ (.tail _ (.tail _ (.tail _ (.head _))))) (Sw.ld E (lg.r _ _ _ _) ?_)
          refine atKinds kok (fun c hc => up hc) hrl hsz3 (Sw.e_Const_int fun q3 => ?_)
          refine at1 kok (fun c hc => up hc) hrl ?_
          refine Sw.notV (Sw.truthyL (vs := K.pv (rootN ns k)) (up (kok.parts _ hrl)) (by rw [(kok.numb _ hrl).length, hp]; decide) ?_)
          have hpv : K.pv (rootN ns k) = [] := by
            have := (kok.numb _ hrl).length
            rw [hp] at this
            exact List.length_eq_zero_iff.mp this
          rw [hpv]
          exact Sw.st E (lg.pg _ _ _ _) (Sw.execs_nil (y _ _))
        · have hlen : 1 < r.dn.length := by
            rw [hdn]
            exact told_min hp (hring.trans hb)
          rw [decide_eq_true (by omega)]
          refine ite_pos rfl ?_
          exact Sw.st E (lg.pg _ _ _ _) (Sw.execs_nil (y _ _))
    have go : ∀ q : Tok, ∀ v : Int, (r.en : Int) = v → Sw B A (compareOp .Eq (.int r.en k2) (.int v q)) (fun v τ => v = .bool true ∧ τ = .o env.locals (frameP lawKs (F (some (.int k kj)) (some (.int ((rootN ns k : Nat) : Int) kr)) (some (.str (wkOf t ns (rootN ns k)).1 tk)) (some (.bool (wkOf t ns (rootN ns k)).2)))) :: lawCs c1 c2 c3 c4 c5 c6 c7 wv' nv iv (some (.ref K.kl)) (some (.ref tl)) sv xv σ) NoE (.o env.locals (frameP lawKs (F (some (.int k kj)) (some (.int ((rootN ns k : Nat) : Int) kr)) (some (.str (wkOf t ns (rootN ns k)).1 tk)) (some (.bool (wkOf t ns (rootN ns k)).2)))) :: lawCs c1 c2 c3 c4 c5 c6 c7 wv' nv iv (some (.ref K.kl)) (some (.ref tl)) sv xv σ) :=
      fun q v h => Sw.eqI ⟨by rw [h]; simp, rfl⟩
    have fin : ∀ (v : Value) (τ : SH), (v = .bool true ∧ τ = .o env.locals (frameP lawKs (F (some (.int k kj)) (some (.int ((rootN ns k : Nat) : Int) kr)) (some (.str (wkOf t ns (rootN ns k)).1 tk)) (some (.bool (wkOf t ns (rootN ns k)).2)))) :: lawCs c1 c2 c3 c4 c5 c6 c7 wv' nv iv (some (.ref K.kl)) (some (.ref tl)) sv xv σ) →
        Sw B A (storeName env (Str.ofString "good") v) (fun _ τ => Sw B A (execs [((match (stAt' law19 1) with | .If _ _ o _ => o | _ => [])[1]?).getD (.Pass default)] env) (fun f τ => match f with | .next => Φ .next τ | f => Φ f τ) NoE τ) NoE τ := by
      rintro v τ ⟨rfl, rfl⟩
      exact Sw.st E (lg.pg _ _ _ _) rest
    by_cases hb : (wkOf t ns (rootN ns k)).2 = true
    · refine ite_pos hb (Sw.e_Const_int fun q2 => ?_)
      have h2 : r.en = 2 := by
        have : r.en = 1 ∨ r.en = 2 := by omega
        rcases this with h | h
        · have := (ok.en1 h).1
          rw [hrg, hb] at this; cases this
        · exact h
      refine Sw.mono (go q2 2 (by rw [h2]; rfl)) (fun v τ q => ?_) fun _ _ q => q
      refine Sw.mono (fin v τ q) (fun _ τ q => ?_) fun _ _ q => q
      refine Sw.mono q (fun f τ q => ?_) fun _ _ q => q
      cases f with
      | next => exact Sw.execs_nil q
      | _ => exact q
    · refine ite_neg hb (Sw.e_Const_int fun q2 => ?_)
      have h1 : r.en = 1 := by
        have : r.en = 1 ∨ r.en = 2 := by omega
        rcases this with h | h
        · exact h
        · have := (ok.en2 h).1
          rw [hrg] at this; exact absurd this hb
      refine Sw.mono (go q2 1 (by rw [h1]; rfl)) (fun v τ q => ?_) fun _ _ q => q
      refine Sw.mono (fin v τ q) (fun _ τ q => ?_) fun _ _ q => q
      refine Sw.mono q (fun f τ q => ?_) fun _ _ q => q
      cases f with
      | next => exact Sw.execs_nil q
      | _ => exact q
end
end

-- NK
section
local macro_rules | `(tactic| walk_at "gl") => `(tactic| with_reducible first | exact g_names _ | exact g_words _ | exact g_walk _ | exact g_same _ | exact g_part _ | exact g_enc _)
local macro_rules | `(tactic| walk_at "bl") => `(tactic| with_reducible first | exact b_range | exact b_sum | exact b_next | exact b_enum | exact b_Stop | exact b_VE)
section
variable {B : Bx} {A : Around} {Ψ : Value → SH → Prop} {σ τ S R T : SH} {env : Env} {t : Th} {K : Kd}
theorem Sc.enumT {elts : List Expr} {kk : Nat} {tp : Pos} {body : List Stmt} {R : Result → SH → Prop} {c : Cl} {e it l : Addr} {vs : List Value} {k : Nat} {v : Value} {ρ : SH} (m : Cl.o l (listP vs) ∈ c :: ρ) (hv : vs[k]? = some v)
    (x : ∀ tu kt, Sw B A (assign (.Tuple elts kk tp) env (.ref tu)) (fun _ τ => Sw B A (execs body env) (fun f τ => match f with
          | .next | .cont => Sc B A (.forLoop (.Tuple elts kk tp) (.ref e) body [] env) R τ
          | .brk => R (.ok .next) τ
          | .ret v => R (.ok (.ret v)) τ) NoE τ) NoE (c :: .o tu (tupP [.int k kt, v]) :: .o e (enP it ((k : Int) + 1)) :: .o it (liP l (k + 1)) :: ρ)) :
    Sc B A (.forLoop (.Tuple elts kk tp) (.ref e) body [] env) R (c :: .o e (enP it k) :: .o it (liP l k) :: ρ) := by
  refine Sc.for1 ?_
  refine Sw.subp (τ := .o e (enP it k) :: .o it (liP l k) :: c :: ρ) ?_ (by walk_at "subp")
  refine Sw.next_enum (l := l) (vs := vs) (v := v) m hv fun tu kt => ?_
  refine Sw.go_enum ?_
  exact Sw.subp (x tu kt) (by walk_at "subp")
theorem Sc.enumE {elts : List Expr} {kk : Nat} {tp : Pos} {body : List Stmt} {R : Result → SH → Prop} {c : Cl} {e it l : Addr} {vs : List Value} {k : Nat} {ρ : SH} (hh : A.handled = none) (m : Cl.o l (listP vs) ∈ c :: ρ) (hv : vs[k]? = none) (x : R (.ok .next) (c :: ρ)) :
    Sc B A (.forLoop (.Tuple elts kk tp) (.ref e) body [] env) R (c :: .o e (enP it k) :: .o it (liP l k) :: ρ) := by
  refine Sc.for1 ?_
  refine Sw.subp (τ := .o e (enP it k) :: .o it (liP l k) :: c :: ρ) ?_ (by walk_at "subp")
  exact Sw.enum_end (l := l) (vs := vs) hh m hv (Sw.execs_nil x)
theorem wb_get {bs : List Wb} {n i : Nat} (h : bs.map Wb.i = List.range n) (hi : i < n) : ∃ b, bs[i]? = some b ∧ b.i = i ∧ b ∈ bs := by
  have hl : bs.length = n := by have := congrArg List.length h; simpa using this
  have hb : i < bs.length := by omega
  refine ⟨bs[i], List.getElem?_eq_getElem hb, ?_, List.getElem_mem hb⟩
  have h2 : (bs.map Wb.i)[i]? = some i := by rw [h]; exact List.getElem?_range hi
  rw [List.getElem?_map, List.getElem?_eq_getElem hb] at h2
  simpa using h2
theorem law_s19 {F : Option Value → Option Value → Option Value → Option Value → List (Option Value)} {to en gi wk tl ro : Addr} {lk : Tok} {ns : List Int} {rs : List Run} {tv ev gv rov qs : List Value} {bs : List Wb} {a b c d : Option Value} {c1 c2 c3 c4 c5 c6 c7 : Addr} {wv' nv iv sv xv : Option Value} {Φ : Flow → SH → Prop} {σ' : SH}
    (E : EnvOk env lawKs lawFs) (GE : GlbOk env lawGs) (CE : env.cells = lawFs.zip [c1, c2, c3, c4, c5, c6, c7]) (lg : LG F to en gi wk (.int (leftI ns) lk)) (hro : ∀ a b c d, NAt (Str.ofString "roots") (.ref ro) lawKs (F a b c d)) (hh : A.handled = none) (hto : t.Ok) (hsz : (t.sz : Int) = szI ns)
    (kok : KdOk K t σ) (hR : RsOk B t S ns σ' qs rs) (hv : Vals rs tv ev gv) (hleft : ∀ (k : Nat) (r : Run), rs[k]? = some r → r.en = 0 → (k : Int) = leftI ns)
    (mto : Cl.o to (listW tv) ∈ σ) (men : Cl.o en (listW ev) ∈ σ) (mgi : Cl.o gi (listW gv) ∈ σ) (mwk : Cl.o wk (listP (bs.map fun b => .ref b.ad)) ∈ σ) (hbs : bs.map Wb.i = List.range t.sz) (mbs : ∀ c ∈ wbC t ns bs, c ∈ σ) (mro : Cl.o ro (listP rov) ∈ σ) (hrov : IntsAre rov [rootI ns 0, rootI ns 1, rootI ns 2])
    (y : ∀ a b c d, Sw B A (execs ((fnBody lawSt).drop 20) env) Φ NoE (.o env.locals (frameP lawKs (F a b c d)) :: lawCs c1 c2 c3 c4 c5 c6 c7 wv' nv iv (some (.ref K.kl)) (some (.ref tl)) sv xv σ)) :
    Sw B A (execs ((fnBody lawSt).drop 19) env) Φ NoE (.o env.locals (frameP lawKs (F a b c d)) :: lawCs c1 c2 c3 c4 c5 c6 c7 wv' nv iv (some (.ref K.kl)) (some (.ref tl)) sv xv σ) := by
  have hrl : rov.length = 3 := by rw [hrov.length]; rfl
  refine Sw.execs_cons (Sw.s_For ?_)
  refine Sw.e_Call_Name ?_
  walk_at "py"
  refine Sw.ld E (hro _ _ _ _) (Args.nil ⟨trivial, ?_⟩)
  refine Sw.call_enum (l := ro) (vs := rov) (.tail _ (.tail _ (.tail _ (.tail _ (.tail _ (.tail _ (.tail _ (.tail _ mro)))))))) fun e it => ?_
  refine Sw.iter_enum (it := it) (i := 0) (by walk_at "mem") ?_
  have loop : ∀ (n k : Nat), k + n = 3 → ∀ (a b c d : Option Value) (jk : SH), Sc B A (.forLoop (forTgt law19) (.ref e) (forBdy law19) [] env) (fun r τ => match r with | .ok f => (match f with | .next => Sw B A (execs ((fnBody lawSt).drop 20) env) Φ NoE τ | f => Φ f τ) | .error _ => False)
      (.o env.locals (frameP lawKs (F a b c d)) :: .o e (enP it (k : Int)) :: .o it (liP ro k) :: (lawCs c1 c2 c3 c4 c5 c6 c7 wv' nv iv (some (.ref K.kl)) (some (.ref tl)) sv xv (jk ++ σ))) := by
    intro n
    induction n with
    | zero =>
      intro k hk a b c d jk
      refine Sc.enumE (vs := rov) hh (.tail _ (.tail _ (.tail _ (.tail _ (.tail _ (.tail _ (.tail _ (.tail _ (List.mem_append_right _ mro))))))))) (List.getElem?_eq_none (by omega)) ?_
      exact Sw.subp (y a b c d) (by walk_at "subp")
    | succ n ih =>
      intro k hk a b c d jk
      have hk3 : k < 3 := by omega
      obtain ⟨kr, hkr⟩ := Mine.IntsAre.get hrov (i := k) (n := rootI ns k) (by
        match k, hk3 with
        | 0, _ => rfl
        | 1, _ => rfl
        | 2, _ => rfl)
      refine Sc.enumT (vs := rov) (.tail _ (.tail _ (.tail _ (.tail _ (.tail _ (.tail _ (.tail _ (.tail _ (List.mem_append_right _ mro))))))))) hkr fun tu kt => ?_
      refine Sw.assign_pair hh (.tail _ (.head _)) ?_
      refine Sw.assign_Name (Sw.st E (lg.pj _ _ _ _ _) (Sw.assign_Name (Sw.st E (lg.pr _ _ _ _ _) ?_)))
      have hlt : k < rs.length := by rw [hR.len]; exact hk3
      obtain ⟨bb, hb1, hb2, hb3⟩ := wb_get hbs (root_lt (k := k) hsz)
      have up : ∀ c ∈ σ, c ∈ Cl.o tu (tupP [.int k kt, .int (rootI ns k) kr]) :: .o e (enP it ((k : Int) + 1)) :: .o it (liP ro (k + 1)) :: (jk ++ σ) := fun c hc => .tail _ (.tail _ (.tail _ (List.mem_append_right _ hc)))
      refine Sw.subp (τ := .o env.locals (frameP lawKs (F (some (.int k kt)) (some (.int (rootI ns k) kr)) c d)) :: lawCs c1 c2 c3 c4 c5 c6 c7 wv' nv iv (some (.ref K.kl)) (some (.ref tl)) sv xv (.o tu (tupP [.int k kt, .int (rootI ns k) kr]) :: .o e (enP it ((k : Int) + 1)) :: .o it (liP ro (k + 1)) :: (jk ++ σ))) ?_ (by walk_at "subp")
      have hmb := mbs _ (List.mem_map.mpr ⟨bb, hb3, rfl⟩)
      rw [hb2] at hmb
      refine law19_turn (a := none) (b := none) (wv := bs.map fun b => .ref b.ad) (bk := bb.ad) E GE CE lg hh hto hsz (kok.mono up) hk3 (List.getElem?_eq_getElem hlt) (hR.ok k _ (List.getElem?_eq_getElem hlt)).1 hv (hleft k _ (List.getElem?_eq_getElem hlt)) (up _ mto) (up _ men) (up _ mgi) (up _ mwk) (by rw [List.getElem?_map, hb1]; rfl) (up _ hmb) fun c d => ?_
      have z := ih (k + 1) (by omega) (some (.int k kt)) (some (.int (rootI ns k) kr)) c d (.o tu (tupP [.int k kt, .int (rootI ns k) kr]) :: jk)
      have e1 : ((k + 1 : Nat) : Int) = (k : Int) + 1 := rfl
      rw [e1] at z
      exact z.sub' (by walk_at "subp")
  refine Sc.sub' (loop 3 0 rfl a b c d []) ?_
  simp only [Int.ofNat_zero, Int.natCast_zero, List.nil_append]
  walk_at "subp"
end
end

-- NL
section
local macro_rules | `(tactic| walk_at "gl") => `(tactic| with_reducible first | exact g_names _ | exact g_words _ | exact g_walk _ | exact g_same _ | exact g_part _ | exact g_enc _)
local macro_rules | `(tactic| walk_at "bl") => `(tactic| with_reducible first | exact b_range | exact b_sum | exact b_next | exact b_enum | exact b_Stop | exact b_VE)
def law20 : Stmt := lawAt 20
-- what is known of the one encoder
structure EncAt (ns : List Int) (ki : Tok) (x dx : Addr) (sep : Option Value) (R : SH) : Prop where
  mx : Cl.o x (eqP (instO 125 dx)) ∈ R
  md : Cl.o dx (frameP jeKs (jeVs (indV (indI ns) ki) sep)) ∈ R
  s1 : indI ns = none → sep = none
  s2 : indI ns ≠ none → ∃ t, sep = some (.str (Str.ofString ",") t)
theorem EncAt.mono {ns : List Int} {ki : Tok} {x dx : Addr} {sep : Option Value} {R R' : SH} (h : EncAt ns ki x dx sep R) (hs : ∀ c ∈ R, c ∈ R') : EncAt ns ki x dx sep R' := ⟨hs _ h.mx, hs _ h.md, h.s1, h.s2⟩
section
variable {B : Bx} {A : Around} {Ψ : Value → SH → Prop} {σ τ S R T : SH} {env : Env} {t : Th} {K : Kd}
theorem law20_turn {F : Option Value → Option Value → Option Value → Option Value → List (Option Value)} {to en gi wk tl x dx : Addr} {left : Value} {sep : Option Value} {ns : List Int} {k : Nat} {ki kk tk : Tok} {a b : Option Value} {c1 c2 c3 c4 c5 c6 c7 : Addr} {nv sv xv kv : Option Value} {Sh : SH} {Φ : Flow → SH → Prop}
    (E : EnvOk env lawKs lawFs) (GE : GlbOk env lawGs) (CE : env.cells = lawFs.zip [c1, c2, c3, c4, c5, c6, c7]) (lg : LG F to en gi wk left) (hh : A.handled = none) (hr : Roomy A 51) (hfr : A.frames = some [env]) (hf : env.frame = some env.locals) (hto : t.Ok) (hsz3 : t.sz ≤ 3) (hk : k < t.sz)
    (ea : EncAt ns ki x dx sep σ) (hS : Full S) (hSh : I73 Sh) (mt : Cl.o tl (listP ((List.range t.sz).map fun i => .ref (t.ad i))) ∈ σ) (hth : ∀ i, i < t.sz → Cl.o (t.ad i) (t.word B.w i) ∈ σ)
    (y : ∀ Sh', I73 Sh' → Φ .next (.o env.locals (frameP lawKs (F a b (some (.str (wkOf t ns k).1 tk)) (some (.bool (wkOf t ns k).2)))) :: lawCs c1 c2 c3 c4 c5 c6 c7 (some (.ref x)) nv (some (.int k kk)) kv (some (.ref tl)) sv xv (S ++ (Sh' ++ σ)))) :
    Sw B A (execs (forBdy law20) env) Φ NoE (.o env.locals (frameP lawKs (F a b (some (.str (wkOf t ns k).1 tk)) (some (.bool (wkOf t ns k).2)))) :: lawCs c1 c2 c3 c4 c5 c6 c7 (some (.ref x)) nv (some (.int k kk)) kv (some (.ref tl)) sv xv (S ++ (Sh ++ σ))) := by
  obtain ⟨hcat, hring, hclen⟩ := tolds_cat (ns := ns) hto hk
  have hlen := tolds_len (ns := ns) hto hsz3 hk
  have frs : ∀ {fr : List (Option Value)} {ρ : SH}, Cl.o env.locals (frameP lawKs fr) ∈ ρ → Frs [env] ρ := fun hm => Frs.cons Frs.nil (by rw [E.kind]; decide) hf hm
  have hI : I181 S := by obtain ⟨cd, tb, h1, h2⟩ := hS; exact .inr ⟨cd, tb, h1, h2⟩
  have hm : ∀ {fr : List (Option Value)}, ∀ c ∈ σ, c ∈ Cl.o env.locals (frameP lawKs fr) :: lawCs c1 c2 c3 c4 c5 c6 c7 (some (.ref x)) nv (some (.int k kk)) kv (some (.ref tl)) sv xv σ :=
    fun c hc => .tail _ (.tail _ (.tail _ (.tail _ (.tail _ (.tail _ (.tail _ (.tail _ hc)))))))
  have hm2 : ∀ {fr : List (Option Value)}, ∀ c ∈ σ, c ∈ Cl.o env.locals (frameP lawKs fr) :: lawCs c1 c2 c3 c4 c5 c6 c7 (some (.ref x)) nv (some (.int k kk)) kv (some (.ref tl)) sv xv (S ++ (Sh ++ σ)) :=
    fun c hc => .tail _ (.tail _ (.tail _ (.tail _ (.tail _ (.tail _ (.tail _ (.tail _ (List.mem_append_right _ (List.mem_append_right _ hc)))))))))
  refine Sw.shrinkN ?_
  refine Sw.execs_cons (Sw.s_Try ?_)
  refine Sw.execs_cons (Sw.s_Assign_Name (Sw.e_And (Sw.ld E (lg.good _ _ _ _) (Sw.truthy_bool (ite_pos rfl ?_)))))
  refine Sw.e_And (Sw.e_Compare (Sw.e_Call_Own ?_))
  refine Sw.ldc E CE .head (v := .ref x) (.tail _ (.head _)) ?_
  refine' Sw.getMethod_inst (C := 125) (f := 115) ?gx ?gd (enc_pg _ _) ?ga ?gb ?gno ?_
  case gx => exact hm2 _ ea.mx
  case gd => exact hm2 _ ea.md
  case ga => kernel_rfl
  case gb => kernel_rfl
  case gno => exact .tail (.tail (.tail (.tail (.tail (.tail (.tail (.tail (.tail (.tail (.tail (.tail (.tail (.tail .head)))))))))))))
  refine ⟨rfl, (fun _ h => by cases h), Args.cons ?_⟩
  refine Sw.e_Subscript (Sw.ldc E CE (.tail (.tail (.tail (.tail .head)))) (v := .ref tl) (.tail _ (.tail _ (.tail _ (.tail _ (.tail _ (.head _)))))) ?_)
  refine Sw.ldc E CE (.tail (.tail .head)) (v := .int k kk) (.tail _ (.tail _ (.tail _ (.head _)))) ?_
  refine atL (vs := (List.range t.sz).map fun i => .ref (t.ad i)) (hm2 _ mt) (by omega) (by omega) (v := .ref (t.ad k)) (by simp [hk]) ?_
  refine Args.nil ⟨callee_K rfl rfl, ?_⟩
  refine Sw.subp (τ := .o env.locals (frameP lawKs (F a b (some (.str (wkOf t ns k).1 tk)) (some (.bool (wkOf t ns k).2)))) :: (S ++ (Sh ++ lawCs c1 c2 c3 c4 c5 c6 c7 (some (.ref x)) nv (some (.int k kk)) kv (some (.ref tl)) sv xv σ))) ?_ (by walk_at "subp")
  refine text_call (l := [env]) (ind := indI ns) (ki := ki) (sep := sep) (hm _ ea.mx) (hm _ ea.md) ea.s1 ea.s2 indOf_len hI hSh ⟨hh, hfr, frs (.head _), hr⟩ hto hsz3 hk (fun i hi => hm _ (hth i hi)) (joinOk_of hclen) (by have : (told t (indI ns) 4 k 0 []).1.length ≤ 196 := hlen; omega) ?_ ?_
  · intro hrg k1 S' Sh' hgr hSh'
    rw [hgr.same hS]
    refine Sw.ld E (lg.text _ _ _ _) (Sw.eqStr (Sw.truthy_bool (ite_pos ?_ ?_)))
    · rw [join_cat]
      show (catS (tolds t ns k).1 == _) = true
      rw [hcat]
      exact beq_self_eq_true _
    refine Sw.e_Bool1 (Sw.e_UnaryOp (Sw.ld E (lg.ring _ _ _ _) (Sw.notV (Sw.truthy_bool ?_))))
    have hb : (wkOf t ns k).2 = false := hring.symm.trans hrg
    rw [hb]
    refine Sw.st E (lg.pg _ _ _ _) (Sw.execs_nil (Sw.execs_nil (Sw.execs_nil ?_)))
    rw [hb] at y
    exact ⟨_, by walk_at "subp", y Sh' hSh'⟩
  · intro hrg x' T' S' Sh' hgr hSh'
    rw [hgr.same hS]
    have hb : (wkOf t ns k).2 = true := hring.symm.trans hrg
    refine Sw.note_next (σ := .o env.locals (frameP lawKs (F a b (some (.str (wkOf t ns k).1 tk)) (some (.bool (wkOf t ns k).2)))) :: (S ++ (Sh' ++ lawCs c1 c2 c3 c4 c5 c6 c7 (some (.ref x)) nv (some (.int k kk)) kv (some (.ref tl)) sv xv σ))) hfr (frs (.head _)) hf fun T => ?_
    refine Sw.flight (fr := none) ?_
    refine Sw.handle (X := "ValueError") sub_ve met_v sub_vv ?_
    walk_at "py"
    refine ⟨rfl, TyIs.own (.head _) (fun o h => h.1), ?_⟩
    rw [if_pos rfl]
    refine Sw.flight (fr := none) ?_
    refine Sw.subp (τ := .o env.locals (frameP lawKs (F a b (some (.str (wkOf t ns k).1 tk)) (some (.bool (wkOf t ns k).2)))) :: (S ++ (Sh' ++ lawCs c1 c2 c3 c4 c5 c6 c7 (some (.ref x)) nv (some (.int k kk)) kv (some (.ref tl)) sv xv σ))) ?_ (by walk_at "subp")
    rw [hb] at y ⊢
    refine Sw.execs_cons (Sw.s_Assign_Name (Sw.e_And (Sw.ld E (lg.good _ _ _ _) (Sw.truthy_bool (ite_pos rfl (Sw.e_Bool1 (Sw.ld E (lg.ring _ _ _ _) ?_)))))))
    refine Sw.st E (lg.pg _ _ _ _) (Sw.execs_nil (Sw.execs_nil ?_))
    exact ⟨_, by walk_at "subp", y Sh' hSh'⟩
theorem law_s20 {F : Option Value → Option Value → Option Value → Option Value → List (Option Value)} {to en gi wk tl x dx : Addr} {left : Value} {sep : Option Value} {ns : List Int} {bs : List Wb} {ki : Tok} {a b c d iv : Option Value} {c1 c2 c3 c4 c5 c6 c7 : Addr} {nv sv xv kv : Option Value} {Sh : SH} {Φ : Flow → SH → Prop}
    (E : EnvOk env lawKs lawFs) (GE : GlbOk env lawGs) (CK : CellOk env lawFs) (CE : env.cells = lawFs.zip [c1, c2, c3, c4, c5, c6, c7]) (lg : LG F to en gi wk left) (hh : A.handled = none) (hr : Roomy A 51) (hfr : A.frames = some [env]) (hf : env.frame = some env.locals) (hto : t.Ok) (hsz3 : t.sz ≤ 3)
    (ea : EncAt ns ki x dx sep σ) (hS : Full S) (hSh : I73 Sh) (mt : Cl.o tl (listP ((List.range t.sz).map fun i => .ref (t.ad i))) ∈ σ) (hth : ∀ i, i < t.sz → Cl.o (t.ad i) (t.word B.w i) ∈ σ)
    (mwk : Cl.o wk (listP (bs.map fun b => .ref b.ad)) ∈ σ) (hbs : bs.map Wb.i = List.range t.sz) (mbs : ∀ c ∈ wbC t ns bs, c ∈ σ)
    (y : ∀ a b c d iv Sh', I73 Sh' → Sw B A (execs ((fnBody lawSt).drop 21) env) Φ NoE (.o env.locals (frameP lawKs (F a b c d)) :: lawCs c1 c2 c3 c4 c5 c6 c7 (some (.ref x)) nv iv kv (some (.ref tl)) sv xv (S ++ (Sh' ++ σ)))) :
    Sw B A (execs ((fnBody lawSt).drop 20) env) Φ NoE (.o env.locals (frameP lawKs (F a b c d)) :: lawCs c1 c2 c3 c4 c5 c6 c7 (some (.ref x)) nv iv kv (some (.ref tl)) sv xv (S ++ (Sh ++ σ))) := by
  have hbl : bs.length = t.sz := by have := congrArg List.length hbs; simpa using this
  refine Sw.execs_cons (Sw.s_For ?_)
  refine Sw.e_Call_Name ?_
  walk_at "py"
  refine Sw.ld E (lg.wk _ _ _ _) (Args.nil ⟨trivial, ?_⟩)
  refine Sw.call_enum (l := wk) (vs := bs.map fun b => .ref b.ad) (.tail _ (.tail _ (.tail _ (.tail _ (.tail _ (.tail _ (.tail _ (.tail _ (List.mem_append_right _ (List.mem_append_right _ mwk)))))))))) fun e it => ?_
  refine Sw.iter_enum (it := it) (i := 0) (by walk_at "mem") ?_
  have loop : ∀ (n k : Nat), k + n = t.sz → ∀ (a b c d iv : Option Value) (Sh jk : SH), I73 Sh → Sc B A (.forLoop (forTgt law20) (.ref e) (forBdy law20) [] env) (fun r τ => match r with | .ok f => (match f with | .next => Sw B A (execs ((fnBody lawSt).drop 21) env) Φ NoE τ | f => Φ f τ) | .error _ => False)
      (.o env.locals (frameP lawKs (F a b c d)) :: .o e (enP it (k : Int)) :: .o it (liP wk k) :: (lawCs c1 c2 c3 c4 c5 c6 c7 (some (.ref x)) nv iv kv (some (.ref tl)) sv xv (S ++ (Sh ++ (jk ++ σ))))) := by
    intro n
    induction n with
    | zero =>
      intro k hk a b c d iv Sh jk hSh
      refine Sc.enumE (vs := bs.map fun b => .ref b.ad) hh (.tail _ (.tail _ (.tail _ (.tail _ (.tail _ (.tail _ (.tail _ (.tail _ (List.mem_append_right _ (List.mem_append_right _ (List.mem_append_right _ mwk))))))))))) (List.getElem?_eq_none (by simp; omega)) ?_
      exact Sw.subp (y a b c d iv Sh hSh) (by walk_at "subp")
    | succ n ih =>
      intro k hk a b c d iv Sh jk hSh
      have hk3 : k < t.sz := by omega
      obtain ⟨bb, hb1, hb2, hb3⟩ := wb_get hbs hk3
      have hmb := mbs _ (List.mem_map.mpr ⟨bb, hb3, rfl⟩)
      rw [hb2] at hmb
      refine Sc.enumT (vs := bs.map fun b => .ref b.ad) (v := .ref bb.ad) (.tail _ (.tail _ (.tail _ (.tail _ (.tail _ (.tail _ (.tail _ (.tail _ (List.mem_append_right _ (List.mem_append_right _ (List.mem_append_right _ mwk))))))))))) (by rw [List.getElem?_map, hb1]; rfl) fun tu kt => ?_
      refine Sw.assign_pair hh (.tail _ (.head _)) ?_
      refine Sw.assign_Name (Sw.stC E CK CE (.tail (.tail .head)) (u := iv) (.tail (.tail (.tail (.tail (.tail (.tail .head)))))) ?_)
      refine Sw.assign_pair hh (v1 := .str (wkOf t ns k).1 bb.k) (v2 := .bool (wkOf t ns k).2) (.tail _ (.tail _ (.tail _ (.tail _ (.tail _ (.tail _ (.tail _ (.tail _ (.tail _ (.tail _ (.tail _ (List.mem_append_right _ (List.mem_append_right _ (List.mem_append_right _ hmb)))))))))))))) ?_
      refine Sw.assign_Name (Sw.st E (lg.pt _ _ _ _ _) (Sw.assign_Name (Sw.st E (lg.pi _ _ _ _ _) ?_)))
      have up : ∀ c ∈ σ, c ∈ Cl.o tu (tupP [.int k kt, .ref bb.ad]) :: .o e (enP it ((k : Int) + 1)) :: .o it (liP wk (k + 1)) :: (jk ++ σ) := fun c hc => .tail _ (.tail _ (.tail _ (List.mem_append_right _ hc)))
      refine Sw.subp (τ := .o env.locals (frameP lawKs (F a b (some (.str (wkOf t ns k).1 bb.k)) (some (.bool (wkOf t ns k).2)))) :: lawCs c1 c2 c3 c4 c5 c6 c7 (some (.ref x)) nv (some (.int k kt)) kv (some (.ref tl)) sv xv (S ++ (Sh ++ (.o tu (tupP [.int k kt, .ref bb.ad]) :: .o e (enP it ((k : Int) + 1)) :: .o it (liP wk (k + 1)) :: (jk ++ σ))))) ?_ (by walk_at "subp")
      refine law20_turn E GE CE lg hh hr hfr hf hto hsz3 hk3 (ea.mono up) hS hSh (up _ mt) (fun i hi => up _ (hth i hi)) fun Sh' hSh' => ?_
      have z := ih (k + 1) (by omega) a b (some (.str (wkOf t ns k).1 bb.k)) (some (.bool (wkOf t ns k).2)) (some (.int k kt)) Sh' (.o tu (tupP [.int k kt, .ref bb.ad]) :: jk) hSh'
      have e1 : ((k + 1 : Nat) : Int) = (k : Int) + 1 := rfl
      rw [e1] at z
      exact z.sub' (by walk_at "subp")
  refine Sc.sub' (loop t.sz 0 (by omega) a b c d iv Sh [] hSh) ?_
  simp only [Int.ofNat_zero, Int.natCast_zero, List.nil_append]
  walk_at "subp"
end
end

-- NM
section
local macro_rules | `(tactic| walk_at "gl") => `(tactic| with_reducible first | exact g_names _ | exact g_words _ | exact g_walk _ | exact g_same _ | exact g_part _ | exact g_enc _)
local macro_rules | `(tactic| walk_at "bl") => `(tactic| with_reducible first | exact b_range | exact b_sum | exact b_next | exact b_enum | exact b_Stop | exact b_VE)
def law22 : Stmt := lawAt 22
structure LH (G : Option Value → Option Value → Option Value → List (Option Value)) : Prop where
  good : ∀ a b c, NAt (Str.ofString "good") (.bool true) lawKs (G a b c)
  pg : ∀ a b c, NPut (Str.ofString "good") (.bool true) lawKs (G a b c) (G a b c)
  ph : ∀ a b c v, NPut (Str.ofString "thing") v lawKs (G a b c) (G (some v) b c)
  pt : ∀ a b c v, NPut (Str.ofString "text") v lawKs (G a b c) (G a (some v) c)
  pi : ∀ a b c v, NPut (Str.ofString "ring") v lawKs (G a b c) (G a b (some v))
  th : ∀ v b c, NAt (Str.ofString "thing") v lawKs (G (some v) b c)
  text : ∀ a v c, NAt (Str.ofString "text") v lawKs (G a (some v) c)
-- the law's things, whatever each now holds
def cellsT (t : Th) (f : Nat → Obj → Prop) : SH := (List.range t.sz).map fun j => .o (t.ad j) (f j)
def updF (f : Nat → Obj → Prop) (k : Nat) (P : Obj → Prop) : Nat → Obj → Prop := fun j => if j = k then P else f j
theorem cellsT_upd {t : Th} {f : Nat → Obj → Prop} {k : Nat} {P0 P : Obj → Prop} (hk : k < t.sz) (e : f k = P0) : Upd (t.ad k) P0 P (cellsT t f) (cellsT t (updF f k P)) := by
  have h := upd_range (ad := t.ad) (f := f) (f' := updF f k P) (i := k) (fun j hj => if_neg hj) t.sz hk
  rw [e, show updF f k P k = P from if_pos rfl] at h
  exact h
theorem cellsT_mem {t : Th} {f : Nat → Obj → Prop} {k : Nat} (hk : k < t.sz) : Cl.o (t.ad k) (f k) ∈ cellsT t f := List.mem_map.mpr ⟨k, List.mem_range.mpr hk, rfl⟩
theorem updF_updF {f : Nat → Obj → Prop} {k : Nat} {P Q : Obj → Prop} : updF (updF f k P) k Q = updF f k Q := by
  funext j
  unfold updF
  split <;> rfl
-- a thing that holds a seven alone
def word7 (w : World) (d : Bool) (k : Tok) : Obj → Prop := if d then dictP w [(nameK 0, .int 7 k)] else listP [.int 7 k]
section
variable {B : Bx} {A : Around} {Ψ : Value → SH → Prop} {σ τ S R T : SH} {env : Env} {t : Th} {K : Kd}
theorem law22_turn {G : Option Value → Option Value → Option Value → List (Option Value)} {k : Nat} {kk : Tok} {f : Nat → Obj → Prop} {b c : Option Value} {c1 c2 c3 c4 c5 c6 c7 : Addr} {wv nv tlv sv xv : Option Value} {Φ : Flow → SH → Prop}
    (E : EnvOk env lawKs lawFs) (GE : GlbOk env lawGs) (CE : env.cells = lawFs.zip [c1, c2, c3, c4, c5, c6, c7]) (lh : LH G) (hto : t.Ok) (hsz3 : t.sz ≤ 3) (hk : k < t.sz)
    (kok : KdOk K t σ) (hfk : f k = t.word B.w k)
    (y : ∀ k7, Φ .next (.o env.locals (frameP lawKs (G (some (.ref (t.ad k))) b c)) :: lawCs c1 c2 c3 c4 c5 c6 c7 wv nv (some (.int k kk)) (some (.ref K.kl)) tlv sv xv (cellsT t (updF f k (word7 B.w (t.isD k) k7)) ++ σ))) :
    Sw B A (execs (forBdy law22) env) Φ NoE (.o env.locals (frameP lawKs (G (some (.ref (t.ad k))) b c)) :: lawCs c1 c2 c3 c4 c5 c6 c7 wv nv (some (.int k kk)) (some (.ref K.kl)) tlv sv xv (cellsT t f ++ σ)) := by
  have up : ∀ {c : Cl} {fr : List (Option Value)} {f : Nat → Obj → Prop}, c ∈ σ → c ∈ .o env.locals (frameP lawKs fr) :: lawCs c1 c2 c3 c4 c5 c6 c7 wv nv (some (.int k kk)) (some (.ref K.kl)) tlv sv xv (cellsT t f ++ σ) :=
    fun hc => .tail _ (.tail _ (.tail _ (.tail _ (.tail _ (.tail _ (.tail _ (.tail _ (List.mem_append_right _ hc))))))))
  have hl := hto.len k hk
  have mi := cellsT_mem (f := f) hk
  cases hd : t.isD k with
  | false =>
    have e0 : f k = listP ((t.pt k).map t.pv) := by rw [hfk]; unfold Th.word; rw [hd]; rfl
    rw [e0] at mi
    refine Sw.execs_cons (Sw.s_ExprE E ?_)
    refine Sw.e_Call_Meth PySem.F.plainAttrs_list PySem.F.slot_list_clear PySem.F.type_list_clear ?_
    refine Sw.ld E (lh.th _ _ _) ?_
    refine ⟨MethOn.own (P := listP ((t.pt k).map t.pv)) (.tail _ (.tail _ (.tail _ (.tail _ (.tail _ (.tail _ (.tail _ (.tail _ (List.mem_append_left _ mi))))))))) (fun o h => by obtain ⟨n, rfl⟩ := h; exact ⟨rfl, rfl⟩), ?_⟩
    refine Args.nil ?_
    refine Sw.clearL (.tail (.tail (.tail (.tail (.tail (.tail (.tail (.tail (Upd.left (cellsT_upd hk e0))))))))))  (by simp; omega) ?_
    refine Sw.execs_cons (Sw.s_If ?_)
    walk_at "py"
    refine Sw.e_SubscriptA ?_
    walk_at "py"
    refine atKinds kok (fun c hc => up hc) hk hsz3 ?_
    walk_at "py"
    refine at0 kok (fun c hc => up hc) hk ?_
    walk_at "py"
    refine Sw.eqI ?_
    rw [hd]
    refine Sw.truthy_bool (ite_pos (by decide) ?_)
    refine Sw.execs_cons (Sw.s_ExprE E ?_)
    refine Sw.e_Call_Meth PySem.F.plainAttrs_list PySem.F.slot_list_append PySem.F.type_list_append ?_
    refine Sw.ld E (lh.th _ _ _) ?_
    have e1 : updF f k (listP []) k = listP [] := if_pos rfl
    have m2 := cellsT_mem (f := updF f k (listP [])) hk
    rw [e1] at m2
    refine ⟨MethOn.own (P := listP []) (.tail _ (.tail _ (.tail _ (.tail _ (.tail _ (.tail _ (.tail _ (.tail _ (List.mem_append_left _ m2))))))))) (fun o h => by obtain ⟨n, rfl⟩ := h; exact ⟨rfl, rfl⟩), ?_⟩
    refine Args.cons (Sw.e_Const_int fun k7 => Args.nil ?_)
    refine Sw.appendL (.tail (.tail (.tail (.tail (.tail (.tail (.tail (.tail (Upd.left (cellsT_upd hk e1)))))))))) (by decide) ?_
    rw [updF_updF]
    have z := y k7
    rw [hd] at z
    exact Sw.execs_nil (Sw.execs_nil z)
  | true =>
    have e0 : f k = dictP B.w (t.kv k) := by rw [hfk]; unfold Th.word; rw [hd]; rfl
    rw [e0] at mi
    refine Sw.execs_cons (Sw.s_ExprE E ?_)
    refine Sw.e_Call_Meth PySem.F.plainAttrs_dict PySem.F.slot_dict_clear PySem.F.type_dict_clear ?_
    refine Sw.ld E (lh.th _ _ _) ?_
    refine ⟨MethOn.own (P := dictP B.w (t.kv k)) (.tail _ (.tail _ (.tail _ (.tail _ (.tail _ (.tail _ (.tail _ (.tail _ (List.mem_append_left _ mi))))))))) (fun o h => ⟨h.1.1, h.1.2.1⟩), ?_⟩
    refine Args.nil ?_
    refine Sw.clearD (.tail (.tail (.tail (.tail (.tail (.tail (.tail (.tail (Upd.left (cellsT_upd hk e0)))))))))) (by rw [Th.kv_length]; omega) ?_
    refine Sw.execs_cons (Sw.s_If ?_)
    walk_at "py"
    refine Sw.e_SubscriptA ?_
    walk_at "py"
    refine atKinds kok (fun c hc => up hc) hk hsz3 ?_
    walk_at "py"
    refine at0 kok (fun c hc => up hc) hk ?_
    walk_at "py"
    refine Sw.eqI ?_
    rw [hd]
    refine Sw.truthy_bool (ite_neg (by decide) ?_)
    have e1 : updF f k (dictP B.w []) k = dictP B.w [] := if_pos rfl
    refine Sw.execs_cons (Sw.s_Assign_Sub ?_)
    refine Sw.e_Const_int fun k7 => ?_
    refine Sw.ld E (lh.th _ _ _) ?_
    refine Sw.e_SubscriptA ?_
    walk_at "py"
    obtain ⟨kn, hkn⟩ := lwNames_at 0 (by decide)
    refine atK (names_at B.w) rfl rfl (by omega) (by omega) hkn ?_
    refine Sw.setD (.tail (.tail (.tail (.tail (.tail (.tail (.tail (.tail (Upd.left (cellsT_upd hk e1)))))))))) (by decide) ?_
    rw [updF_updF]
    have z := y k7
    rw [hd] at z
    exact Sw.execs_nil (Sw.execs_nil z)
theorem law_s22 {G : Option Value → Option Value → Option Value → List (Option Value)} {tl : Addr} {a b c iv : Option Value} {c1 c2 c3 c4 c5 c6 c7 : Addr} {wv nv sv xv : Option Value} {Φ : Flow → SH → Prop}
    (E : EnvOk env lawKs lawFs) (GE : GlbOk env lawGs) (CK : CellOk env lawFs) (CE : env.cells = lawFs.zip [c1, c2, c3, c4, c5, c6, c7]) (lh : LH G) (hh : A.handled = none) (hto : t.Ok) (hsz3 : t.sz ≤ 3)
    (kok : KdOk K t σ) (mt : Cl.o tl (listP ((List.range t.sz).map fun i => .ref (t.ad i))) ∈ σ)
    (y : ∀ a iv f, (∀ j, j < t.sz → ∃ k7, f j = word7 B.w (t.isD j) k7) → Sw B A (execs ((fnBody lawSt).drop 23) env) Φ NoE (.o env.locals (frameP lawKs (G a b c)) :: lawCs c1 c2 c3 c4 c5 c6 c7 wv nv iv (some (.ref K.kl)) (some (.ref tl)) sv xv (cellsT t f ++ σ))) :
    Sw B A (execs ((fnBody lawSt).drop 22) env) Φ NoE (.o env.locals (frameP lawKs (G a b c)) :: lawCs c1 c2 c3 c4 c5 c6 c7 wv nv iv (some (.ref K.kl)) (some (.ref tl)) sv xv (thW t B.w ++ σ)) := by
  refine Sw.execs_cons (Sw.s_For ?_)
  refine Sw.e_Call_Name ?_
  walk_at "py"
  refine ⟨trivial, ?_⟩
  refine Sw.call_enum (l := tl) (vs := (List.range t.sz).map fun i => .ref (t.ad i)) (.tail _ (.tail _ (.tail _ (.tail _ (.tail _ (.tail _ (.tail _ (.tail _ (List.mem_append_right _ mt))))))))) fun e it => ?_
  refine Sw.iter_enum (it := it) (i := 0) (by walk_at "mem") ?_
  have loop : ∀ (n k : Nat), k + n = t.sz → ∀ (a iv : Option Value) (f : Nat → Obj → Prop) (jk : SH), (∀ j, j < k → ∃ k7, f j = word7 B.w (t.isD j) k7) → (∀ j, k ≤ j → f j = t.word B.w j) → Sc B A (.forLoop (forTgt law22) (.ref e) (forBdy law22) [] env) (fun r τ => match r with | .ok f => (match f with | .next => Sw B A (execs ((fnBody lawSt).drop 23) env) Φ NoE τ | f => Φ f τ) | .error _ => False)
      (.o env.locals (frameP lawKs (G a b c)) :: .o e (enP it (k : Int)) :: .o it (liP tl k) :: (lawCs c1 c2 c3 c4 c5 c6 c7 wv nv iv (some (.ref K.kl)) (some (.ref tl)) sv xv (cellsT t f ++ (jk ++ σ)))) := by
    intro n
    induction n with
    | zero =>
      intro k hk a iv f jk h1 h2
      refine Sc.enumE (vs := (List.range t.sz).map fun i => .ref (t.ad i)) hh (.tail _ (.tail _ (.tail _ (.tail _ (.tail _ (.tail _ (.tail _ (.tail _ (List.mem_append_right _ (List.mem_append_right _ mt)))))))))) (List.getElem?_eq_none (by simp; omega)) ?_
      exact Sw.subp (y a iv f (fun j hj => h1 j (by omega))) (by walk_at "subp")
    | succ n ih =>
      intro k hk a iv f jk h1 h2
      have hk3 : k < t.sz := by omega
      refine Sc.enumT (vs := (List.range t.sz).map fun i => .ref (t.ad i)) (v := .ref (t.ad k)) (.tail _ (.tail _ (.tail _ (.tail _ (.tail _ (.tail _ (.tail _ (.tail _ (List.mem_append_right _ (List.mem_append_right _ mt)))))))))) (by simp [hk3]) fun tu kt => ?_
      refine Sw.assign_pair hh (.tail _ (.head _)) ?_
      refine Sw.assign_Name (Sw.stC E CK CE (.tail (.tail .head)) (u := iv) (.tail (.tail (.tail (.tail (.tail (.tail .head)))))) ?_)
      refine Sw.assign_Name (Sw.st E (lh.ph _ _ _ _) ?_)
      have up : ∀ c ∈ σ, c ∈ Cl.o tu (tupP [.int k kt, .ref (t.ad k)]) :: .o e (enP it ((k : Int) + 1)) :: .o it (liP tl (k + 1)) :: (jk ++ σ) := fun c hc => .tail _ (.tail _ (.tail _ (List.mem_append_right _ hc)))
      refine Sw.subp (τ := .o env.locals (frameP lawKs (G (some (.ref (t.ad k))) b c)) :: lawCs c1 c2 c3 c4 c5 c6 c7 wv nv (some (.int k kt)) (some (.ref K.kl)) (some (.ref tl)) sv xv (cellsT t f ++ (.o tu (tupP [.int k kt, .ref (t.ad k)]) :: .o e (enP it ((k : Int) + 1)) :: .o it (liP tl (k + 1)) :: (jk ++ σ)))) ?_ (by walk_at "subp")
      refine law22_turn E GE CE lh hto hsz3 hk3 (kok.mono up) (h2 k (Nat.le_refl _)) fun k7 => ?_
      have z := ih (k + 1) (by omega) (some (.ref (t.ad k))) (some (.int k kt)) (updF f k (word7 B.w (t.isD k) k7)) (.o tu (tupP [.int k kt, .ref (t.ad k)]) :: jk)
        (fun j hj => by
          unfold updF
          by_cases h : j = k
          · subst h; exact ⟨k7, if_pos rfl⟩
          · rw [if_neg h]; exact h1 j (by omega))
        (fun j hj => by
          unfold updF
          rw [if_neg (by omega)]; exact h2 j (by omega))
      have e1 : ((k + 1 : Nat) : Int) = (k : Int) + 1 := rfl
      rw [e1] at z
      exact z.sub' (by walk_at "subp")
  refine Sc.sub' (loop t.sz 0 (by omega) a iv (fun j => t.word B.w j) [] (fun j hj => absurd hj (Nat.not_lt_zero _)) (fun _ _ => rfl)) ?_
  simp only [Int.ofNat_zero, Int.natCast_zero, List.nil_append, cellsT, thW]
  walk_at "subp"
end
end

-- NN
section
local macro_rules | `(tactic| walk_at "gl") => `(tactic| with_reducible first | exact g_names _ | exact g_words _ | exact g_walk _ | exact g_same _ | exact g_part _ | exact g_enc _)
local macro_rules | `(tactic| walk_at "subc") => `(tactic| (refine Subp.of_cnt fun _ => ?_; simp only [wkOf, cnt_append, cnt_cons, cnt_nil]; omega))
local macro_rules | `(tactic| walk_at "bl") => `(tactic| with_reducible first | exact b_range | exact b_sum | exact b_next | exact b_enum | exact b_Stop | exact b_VE)
def law23 : Stmt := lawAt 23
-- one thing alone that holds a seven
@[reducible] def th7 (t : Th) (k : Nat) (k7 : Tok) : Th := { sz := 1, ad := fun _ => t.ad k, isD := fun _ => t.isD k, pt := fun _ => [-2], tok := fun _ => k7 }
@[reducible] def kd7 (K : Kd) (k : Nat) (nl tp pl : Addr) (kx : Tok) : Kd := { kl := nl, tu := fun _ => tp, pl := fun _ => pl, kt := fun _ => K.kt k, pv := fun _ => [.int (-2) kx] }
theorem th7_ok {t : Th} {k : Nat} {k7 : Tok} (to : t.Ok) (hk : k < t.sz) : (th7 t k k7).Ok where
  inj := fun i j hi hj _ => by
    have h1 : i < 1 := hi
    have h2 : j < 1 := hj
    omega
  len := fun i hi => by show (1 : Nat) ≤ 3; decide
  low := fun i hi p hp => by
    have := List.mem_singleton.mp hp
    subst this
    exact ⟨by decide, show (-2 : Int) < 1 by decide⟩
  sys := fun i hi => to.sys k hk
theorem th7_word {t : Th} {w : World} {k : Nat} {k7 : Tok} : (th7 t k k7).word w 0 = word7 w (t.isD k) k7 := rfl
theorem th7_ring {t : Th} {k : Nat} {k7 : Tok} {ind : Option Str} : (told (th7 t k k7) ind 4 0 0 []).2 = false := by
  cases hd : t.isD k <;> simp [told, hd, partsL, partsD]
section
variable {B : Bx} {A : Around} {Ψ : Value → SH → Prop} {σ τ S R T : SH} {env : Env} {t : Th} {K : Kd}
theorem law23_turn {G : Option Value → Option Value → Option Value → List (Option Value)} {ns : List Int} {x dx : Addr} {sep : Option Value} {ki kj kk k7 : Tok} {k : Nat} {b c : Option Value} {c1 c2 c3 c4 c5 c6 c7 : Addr} {tlv sv xv : Option Value} {Sh : SH} {Φ : Flow → SH → Prop}
    (E : EnvOk env lawKs lawFs) (GE : GlbOk env lawGs) (CE : env.cells = lawFs.zip [c1, c2, c3, c4, c5, c6, c7]) (lh : LH G) (hh : A.handled = none) (hr : Roomy A 51) (hfr : A.frames = some [env]) (hf : env.frame = some env.locals) (hto : t.Ok) (hsz3 : t.sz ≤ 3) (hk : k < t.sz)
    (ea : EncAt ns ki x dx sep σ) (hS : Full S) (hSh : I73 Sh) (kok : KdOk K t σ) (m7 : Cl.o (t.ad k) (word7 B.w (t.isD k) k7) ∈ σ)
    (y : ∀ b c Sh' jk, I73 Sh' → Φ .next (.o env.locals (frameP lawKs (G (some (.ref (t.ad k))) b c)) :: lawCs c1 c2 c3 c4 c5 c6 c7 (some (.ref x)) (some (indV (indI ns) kj)) (some (.int k kk)) (some (.ref K.kl)) tlv sv xv (S ++ (Sh' ++ (jk ++ σ))))) :
    Sw B A (execs (forBdy law23) env) Φ NoE (.o env.locals (frameP lawKs (G (some (.ref (t.ad k))) b c)) :: lawCs c1 c2 c3 c4 c5 c6 c7 (some (.ref x)) (some (indV (indI ns) kj)) (some (.int k kk)) (some (.ref K.kl)) tlv sv xv (S ++ (Sh ++ σ))) := by
  have to7 := th7_ok (k7 := k7) hto hk
  obtain ⟨hcat, hring, hclen⟩ := tolds_cat (ns := ns) to7 (i := 0) Nat.one_pos
  have hlen := tolds_len (ns := ns) to7 (show (1 : Nat) ≤ 3 by decide) (i := 0) Nat.one_pos
  have hrg : (wkOf (th7 t k k7) ns 0).2 = false := hring.symm.trans th7_ring
  have frs : ∀ {fr : List (Option Value)} {ρ : SH}, Cl.o env.locals (frameP lawKs fr) ∈ ρ → Frs [env] ρ := fun hm => Frs.cons Frs.nil (by rw [E.kind]; decide) hf hm
  have hI : I181 S := by obtain ⟨cd, tb, h1, h2⟩ := hS; exact .inr ⟨cd, tb, h1, h2⟩
  have up : ∀ {c : Cl} {fr : List (Option Value)}, c ∈ σ → c ∈ Cl.o env.locals (frameP lawKs fr) :: lawCs c1 c2 c3 c4 c5 c6 c7 (some (.ref x)) (some (indV (indI ns) kj)) (some (.int k kk)) (some (.ref K.kl)) tlv sv xv (S ++ (Sh ++ σ)) :=
    fun hc => .tail _ (.tail _ (.tail _ (.tail _ (.tail _ (.tail _ (.tail _ (.tail _ (List.mem_append_right _ (List.mem_append_right _ hc)))))))))
  refine Sw.shrinkN ?_
  refine Sw.execs_cons (Sw.s_Assign_Tuple ?_)
  refine Sw.e_Call_Name (Sw.ldgE GE (by walk_at "mem") (g_walk _) ?_)
  refine ⟨rfl, Args.cons ?_⟩
  refine Sw.e_List (Args.cons ?_)
  refine Sw.e_Tuple (Args.cons ?_)
  refine Sw.e_SubscriptA ?_
  walk_at "py"
  refine atKinds kok (fun c hc => up hc) hk hsz3 ?_
  walk_at "py"
  refine at0 kok (fun c hc => up hc) hk ?_
  refine Args.cons ?_
  refine Sw.e_List (Args.cons ?_)
  walk_at "py"
  refine Sw.negI fun kx => ?_
  refine Args.nil ⟨show (1 : Nat) < 100000 by decide, _, _, rfl, fun pl => ?_⟩
  refine Args.nil ⟨show (2 : Nat) < 100000 by decide, _, _, rfl, fun tp => ?_⟩
  refine Args.nil ⟨show (1 : Nat) < 100000 by decide, _, _, rfl, fun nl => ?_⟩
  refine Args.cons (Sw.e_Const_int fun k0 => Args.cons (Sw.e_Const_int fun k1 => Args.cons (Sw.e_Tuple (Args.nil ⟨by decide, _, _, rfl, fun w => Args.cons ?_⟩))))
  refine Sw.ldc E CE (.tail .head) (v := indV (indI ns) kj) (.tail _ (.tail _ (.tail _ (.tail _ (.tail _ (.tail _ (.head _))))))) ?_
  refine Args.nil ⟨callee_K rfl rfl, ?_⟩
  have kok7 : KdOk (kd7 K k nl tp pl kx) (th7 t k k7) (.o env.locals (frameP lawKs (G (some (.ref (t.ad k))) b c)) :: .o w (tupP []) :: .o nl (listP [.ref tp]) :: .o tp (tupP [.int (if t.isD k then 1 else 0) (K.kt k), .ref pl]) :: .o pl (listP [.int (-2) kx]) :: lawCs c1 c2 c3 c4 c5 c6 c7 (some (.ref x)) (some (indV (indI ns) kj)) (some (.int k kk)) (some (.ref K.kl)) tlv sv xv (S ++ (Sh ++ σ))) :=
    ⟨.tail _ (.tail _ (.head _)), fun i hi => .tail _ (.tail _ (.tail _ (.head _))), fun i hi => .tail _ (.tail _ (.tail _ (.tail _ (.head _)))), fun i hi => .cons _ _ .nil⟩
  refine lw_call (K := kd7 K k nl tp pl kx) to7 (show (1 : Nat) ≤ 3 by decide) (ind := indI ns) indOf_len 4 A 0 0 [] k0 k1 w [] _ _ _ _ rfl rfl List.nodup_nil (fun j hj => nomatch hj) Nat.one_pos hh (hr.le (by decide)) kok7 (.tail _ (.head _)) .nil fun k2 bk ρ2 => ?_
  refine Sw.assign_pair hh (v1 := .str (wkOf (th7 t k k7) ns 0).1 k2) (v2 := .bool (wkOf (th7 t k k7) ns 0).2) (.tail _ (.head _)) ?_
  refine Sw.assign_Name (Sw.st E (lh.pt _ _ _ _) (Sw.assign_Name (Sw.st E (lh.pi _ _ _ _) ?_)))
  -- the text that the encoder makes
  have hm : ∀ {fr : List (Option Value)}, ∀ c ∈ σ, c ∈ Cl.o env.locals (frameP lawKs fr) :: lawCs c1 c2 c3 c4 c5 c6 c7 (some (.ref x)) (some (indV (indI ns) kj)) (some (.int k kk)) (some (.ref K.kl)) tlv sv xv ((.o bk (tupP [.str (wkOf (th7 t k k7) ns 0).1 k2, .bool (wkOf (th7 t k k7) ns 0).2]) :: .o w (tupP []) :: .o nl (listP [.ref tp]) :: .o tp (tupP [.int (if t.isD k then 1 else 0) (K.kt k), .ref pl]) :: .o pl (listP [.int (-2) kx]) :: ρ2) ++ σ) :=
    fun c hc => .tail _ (.tail _ (.tail _ (.tail _ (.tail _ (.tail _ (.tail _ (.tail _ (List.mem_append_right _ hc))))))))
  refine Sw.subp (τ := .o env.locals (frameP lawKs (G (some (.ref (t.ad k))) (some (.str (wkOf (th7 t k k7) ns 0).1 k2)) (some (.bool (wkOf (th7 t k k7) ns 0).2)))) :: (S ++ (Sh ++ lawCs c1 c2 c3 c4 c5 c6 c7 (some (.ref x)) (some (indV (indI ns) kj)) (some (.int k kk)) (some (.ref K.kl)) tlv sv xv ((.o bk (tupP [.str (wkOf (th7 t k k7) ns 0).1 k2, .bool (wkOf (th7 t k k7) ns 0).2]) :: .o w (tupP []) :: .o nl (listP [.ref tp]) :: .o tp (tupP [.int (if t.isD k then 1 else 0) (K.kt k), .ref pl]) :: .o pl (listP [.int (-2) kx]) :: ρ2) ++ σ)))) ?_ (by walk_at "subc")
  generalize (Cl.o bk (tupP [.str (wkOf (th7 t k k7) ns 0).1 k2, .bool (wkOf (th7 t k k7) ns 0).2]) :: .o w (tupP []) :: .o nl (listP [.ref tp]) :: .o tp (tupP [.int (if t.isD k then 1 else 0) (K.kt k), .ref pl]) :: .o pl (listP [.int (-2) kx]) :: ρ2) = jk at hm
  refine Sw.execs_cons (Sw.s_Assign_Name (Sw.e_And (Sw.ld E (lh.good _ _ _) (Sw.truthy_bool (ite_pos rfl ?_)))))
  refine Sw.e_Bool1 (Sw.e_Compare (Sw.e_Call_Own ?_))
  have hm2 : ∀ {fr : List (Option Value)}, ∀ c ∈ σ, c ∈ Cl.o env.locals (frameP lawKs fr) :: (S ++ (Sh ++ lawCs c1 c2 c3 c4 c5 c6 c7 (some (.ref x)) (some (indV (indI ns) kj)) (some (.int k kk)) (some (.ref K.kl)) tlv sv xv (jk ++ σ))) :=
    fun c hc => .tail _ (List.mem_append_right _ (List.mem_append_right _ (.tail _ (.tail _ (.tail _ (.tail _ (.tail _ (.tail _ (.tail _ (List.mem_append_right _ hc))))))))))
  refine Sw.ldc E CE .head (v := .ref x) (.tail _ (List.mem_append_right _ (List.mem_append_right _ (.head _)))) ?_
  refine' Sw.getMethod_inst (C := 125) (f := 115) ?gx ?gd (enc_pg _ _) ?ga ?gb ?gno ?_
  case gx => exact hm2 _ ea.mx
  case gd => exact hm2 _ ea.md
  case ga => kernel_rfl
  case gb => kernel_rfl
  case gno => exact .tail (.tail (.tail (.tail (.tail (.tail (.tail (.tail (.tail (.tail (.tail (.tail (.tail (.tail .head)))))))))))))
  refine ⟨rfl, (fun _ h => by cases h), Args.cons (Sw.ld E (lh.th _ _ _) ?_)⟩
  refine Args.nil ⟨callee_K rfl rfl, ?_⟩
  refine text_call (t := th7 t k k7) (i := 0) (l := [env]) (ind := indI ns) (ki := ki) (sep := sep) (hm _ ea.mx) (hm _ ea.md) ea.s1 ea.s2 indOf_len hI hSh ⟨hh, hfr, frs (.head _), hr⟩ to7 (show (1 : Nat) ≤ 3 by decide) Nat.one_pos (fun i hi => by
    have : i = 0 := by have h : i < 1 := hi; omega
    subst this
    exact hm _ m7) (joinOk_of hclen) (by have : (told (th7 t k k7) (indI ns) 4 0 0 []).1.length ≤ 196 := hlen; omega) ?_ ?_
  · intro _ k3 S' Sh' hgr hSh'
    rw [hgr.same hS]
    refine Sw.ld E (lh.text _ _ _) (Sw.eqStr ?_)
    have he : (Txt.join (Str.ofString "") (told (th7 t k k7) (indI ns) 4 0 0 []).1 == (wkOf (th7 t k k7) ns 0).1) = true := by
      rw [join_cat]
      show (catS (tolds (th7 t k k7) ns 0).1 == _) = true
      rw [hcat]
      exact beq_self_eq_true _
    rw [he]
    refine Sw.st E (lh.pg _ _ _) (Sw.execs_nil ?_)
    exact ⟨_, by walk_at "subp", y (some (.str (wkOf (th7 t k k7) ns 0).1 k2)) (some (.bool (wkOf (th7 t k k7) ns 0).2)) Sh' jk hSh'⟩
  · intro hr1
    rw [th7_ring] at hr1
    cases hr1
end
end

-- NO
section
local macro_rules | `(tactic| walk_at "gl") => `(tactic| with_reducible first | exact g_names _ | exact g_words _ | exact g_walk _ | exact g_same _ | exact g_part _ | exact g_enc _)
local macro_rules | `(tactic| walk_at "bl") => `(tactic| with_reducible first | exact b_range | exact b_sum | exact b_next | exact b_enum | exact b_Stop | exact b_VE)
section
variable {B : Bx} {A : Around} {Ψ : Value → SH → Prop} {σ τ S R T : SH} {env : Env} {t : Th} {K : Kd}
theorem law_s23 {G : Option Value → Option Value → Option Value → List (Option Value)} {ns : List Int} {x dx tl : Addr} {sep : Option Value} {ki kj : Tok} {a b c iv : Option Value} {c1 c2 c3 c4 c5 c6 c7 : Addr} {sv xv : Option Value} {Sh : SH} {Φ : Flow → SH → Prop}
    (E : EnvOk env lawKs lawFs) (GE : GlbOk env lawGs) (CK : CellOk env lawFs) (CE : env.cells = lawFs.zip [c1, c2, c3, c4, c5, c6, c7]) (lh : LH G) (hh : A.handled = none) (hr : Roomy A 51) (hfr : A.frames = some [env]) (hf : env.frame = some env.locals) (hto : t.Ok) (hsz3 : t.sz ≤ 3)
    (ea : EncAt ns ki x dx sep σ) (hS : Full S) (hSh : I73 Sh) (kok : KdOk K t σ) (mt : Cl.o tl (listP ((List.range t.sz).map fun i => .ref (t.ad i))) ∈ σ) (m7 : ∀ k, k < t.sz → ∃ k7, Cl.o (t.ad k) (word7 B.w (t.isD k) k7) ∈ σ)
    (y : ∀ a b c iv Sh' jk, I73 Sh' → Φ (.ret (.bool true)) (.o env.locals (frameP lawKs (G a b c)) :: lawCs c1 c2 c3 c4 c5 c6 c7 (some (.ref x)) (some (indV (indI ns) kj)) iv (some (.ref K.kl)) (some (.ref tl)) sv xv (S ++ (Sh' ++ (jk ++ σ))))) :
    Sw B A (execs ((fnBody lawSt).drop 23) env) Φ NoE (.o env.locals (frameP lawKs (G a b c)) :: lawCs c1 c2 c3 c4 c5 c6 c7 (some (.ref x)) (some (indV (indI ns) kj)) iv (some (.ref K.kl)) (some (.ref tl)) sv xv (S ++ (Sh ++ σ))) := by
  refine Sw.execs_cons (Sw.s_For ?_)
  refine Sw.e_Call_Name ?_
  walk_at "py"
  refine ⟨trivial, ?_⟩
  refine Sw.call_enum (l := tl) (vs := (List.range t.sz).map fun i => .ref (t.ad i)) (.tail _ (.tail _ (.tail _ (.tail _ (.tail _ (.tail _ (.tail _ (.tail _ (List.mem_append_right _ (List.mem_append_right _ mt)))))))))) fun e it => ?_
  refine Sw.iter_enum (it := it) (i := 0) (by walk_at "mem") ?_
  have ret : ∀ (a b c iv : Option Value) (Sh jk : SH), I73 Sh → Sw B A (execs ((fnBody lawSt).drop 24) env) Φ NoE (.o env.locals (frameP lawKs (G a b c)) :: lawCs c1 c2 c3 c4 c5 c6 c7 (some (.ref x)) (some (indV (indI ns) kj)) iv (some (.ref K.kl)) (some (.ref tl)) sv xv (S ++ (Sh ++ (jk ++ σ)))) := by
    intro a b c iv Sh jk hSh
    refine Sw.execs_cons (Sw.s_Return (Sw.ld E (lh.good _ _ _) ?_))
    exact y a b c iv Sh jk hSh
  have loop : ∀ (n k : Nat), k + n = t.sz → ∀ (a b c iv : Option Value) (Sh jk : SH), I73 Sh → Sc B A (.forLoop (forTgt law23) (.ref e) (forBdy law23) [] env) (fun r τ => match r with | .ok f => (match f with | .next => Sw B A (execs ((fnBody lawSt).drop 24) env) Φ NoE τ | f => Φ f τ) | .error _ => False)
      (.o env.locals (frameP lawKs (G a b c)) :: .o e (enP it (k : Int)) :: .o it (liP tl k) :: (lawCs c1 c2 c3 c4 c5 c6 c7 (some (.ref x)) (some (indV (indI ns) kj)) iv (some (.ref K.kl)) (some (.ref tl)) sv xv (S ++ (Sh ++ (jk ++ σ))))) := by
    intro n
    induction n with
    | zero =>
      intro k hk a b c iv Sh jk hSh
      refine Sc.enumE (vs := (List.range t.sz).map fun i => .ref (t.ad i)) hh (.tail _ (.tail _ (.tail _ (.tail _ (.tail _ (.tail _ (.tail _ (.tail _ (List.mem_append_right _ (List.mem_append_right _ (List.mem_append_right _ mt))))))))))) (List.getElem?_eq_none (by simp; omega)) ?_
      exact ret a b c iv Sh jk hSh
    | succ n ih =>
      intro k hk a b c iv Sh jk hSh
      have hk3 : k < t.sz := by omega
      obtain ⟨k7, m7⟩ := m7 k hk3
      refine Sc.enumT (vs := (List.range t.sz).map fun i => .ref (t.ad i)) (v := .ref (t.ad k)) (.tail _ (.tail _ (.tail _ (.tail _ (.tail _ (.tail _ (.tail _ (.tail _ (List.mem_append_right _ (List.mem_append_right _ (List.mem_append_right _ mt))))))))))) (by simp [hk3]) fun tu kt => ?_
      refine Sw.assign_pair hh (.tail _ (.head _)) ?_
      refine Sw.assign_Name (Sw.stC E CK CE (.tail (.tail .head)) (u := iv) (.tail (.tail (.tail (.tail (.tail (.tail .head)))))) ?_)
      refine Sw.assign_Name (Sw.st E (lh.ph _ _ _ _) ?_)
      have up : ∀ c ∈ σ, c ∈ Cl.o tu (tupP [.int k kt, .ref (t.ad k)]) :: .o e (enP it ((k : Int) + 1)) :: .o it (liP tl (k + 1)) :: (jk ++ σ) := fun c hc => .tail _ (.tail _ (.tail _ (List.mem_append_right _ hc)))
      refine Sw.subp (τ := .o env.locals (frameP lawKs (G (some (.ref (t.ad k))) b c)) :: lawCs c1 c2 c3 c4 c5 c6 c7 (some (.ref x)) (some (indV (indI ns) kj)) (some (.int k kt)) (some (.ref K.kl)) (some (.ref tl)) sv xv (S ++ (Sh ++ (.o tu (tupP [.int k kt, .ref (t.ad k)]) :: .o e (enP it ((k : Int) + 1)) :: .o it (liP tl (k + 1)) :: (jk ++ σ))))) ?_ (by walk_at "subp")
      refine law23_turn E GE CE lh hh hr hfr hf hto hsz3 hk3 (ea.mono up) hS hSh (kok.mono up) (up _ m7) fun b c Sh' jk2 hSh' => ?_
      have z := ih (k + 1) (by omega) (some (.ref (t.ad k))) b c (some (.int k kt)) Sh' (jk2 ++ (.o tu (tupP [.int k kt, .ref (t.ad k)]) :: jk)) hSh'
      have e1 : ((k + 1 : Nat) : Int) = (k : Int) + 1 := rfl
      rw [e1] at z
      exact z.sub' (by walk_at "subp")
  refine Sc.sub' (loop t.sz 0 (by omega) a b c iv Sh [] hSh) ?_
  simp only [Int.ofNat_zero, Int.natCast_zero, List.nil_append]
  walk_at "subp"
-- the two that ask whether the things are as they were
theorem law_s18 {fr fr' : List (Option Value)} {tl : Addr} {c1 c2 c3 c4 c5 c6 c7 : Addr} {wv nv iv sv xv : Option Value} {Φ : Flow → SH → Prop}
    (E : EnvOk env lawKs lawFs) (GE : GlbOk env lawGs) (CE : env.cells = lawFs.zip [c1, c2, c3, c4, c5, c6, c7]) (hh : A.handled = none) (hr : Roomy A 2) (to : t.Ok) (hsz : t.sz ≤ 3) (lo : LsOk B tl K t σ)
    (hp : NPut (Str.ofString "good") (.bool true) lawKs fr fr')
    (y : Sw B A (execs ((fnBody lawSt).drop 19) env) Φ NoE (.o env.locals (frameP lawKs fr') :: lawCs c1 c2 c3 c4 c5 c6 c7 wv nv iv (some (.ref K.kl)) (some (.ref tl)) sv xv σ)) :
    Sw B A (execs ((fnBody lawSt).drop 18) env) Φ NoE (.o env.locals (frameP lawKs fr) :: lawCs c1 c2 c3 c4 c5 c6 c7 wv nv iv (some (.ref K.kl)) (some (.ref tl)) sv xv σ) := by
  refine Sw.execs_cons (Sw.s_Assign_Name ?_)
  exact law_same (ns := []) (fs := []) (e := .Constant .none 0 default) E GE CE hh hr to hsz lo (Sw.st E hp y)
theorem law_s21 {fr : List (Option Value)} {tl : Addr} {c1 c2 c3 c4 c5 c6 c7 : Addr} {wv nv iv sv xv : Option Value} {Φ : Flow → SH → Prop}
    (E : EnvOk env lawKs lawFs) (GE : GlbOk env lawGs) (CE : env.cells = lawFs.zip [c1, c2, c3, c4, c5, c6, c7]) (hh : A.handled = none) (hr : Roomy A 2) (to : t.Ok) (hsz : t.sz ≤ 3) (lo : LsOk B tl K t σ)
    (hg : NAt (Str.ofString "good") (.bool true) lawKs fr) (hp : NPut (Str.ofString "good") (.bool true) lawKs fr fr)
    (y : Sw B A (execs ((fnBody lawSt).drop 22) env) Φ NoE (.o env.locals (frameP lawKs fr) :: lawCs c1 c2 c3 c4 c5 c6 c7 wv nv iv (some (.ref K.kl)) (some (.ref tl)) sv xv σ)) :
    Sw B A (execs ((fnBody lawSt).drop 21) env) Φ NoE (.o env.locals (frameP lawKs fr) :: lawCs c1 c2 c3 c4 c5 c6 c7 wv nv iv (some (.ref K.kl)) (some (.ref tl)) sv xv σ) := by
  refine Sw.execs_cons (Sw.s_Assign_Name (Sw.e_And (Sw.ld E hg (Sw.truthy_bool (ite_pos rfl (Sw.e_Bool1 ?_))))))
  exact law_same (ns := []) (fs := []) (e := .Constant .none 0 default) E GE CE hh hr to hsz lo (Sw.st E hp y)
end
end

-- NP
section
local macro_rules | `(tactic| walk_at "subc") => `(tactic| (refine Subp.of_cnt fun _ => ?_; simp only [cnt_append, cnt_cons, cnt_nil, lawVs, law4V, law6V]; omega))
section
variable {B : Bx} {A : Around} {Ψ : Value → SH → Prop} {σ τ S R T : SH} {env : Env} {t : Th} {K : Kd}
-- what stays in place from the writer on
structure Base (B : Bx) (ns : List Int) (t : Th) (K : Kd) (tl r ro : Addr) (rv rov : List Value) (ki : Tok) (x dx : Addr) (sep : Option Value) (ρ : SH) : Prop where
  to : t.Ok
  sz : (t.sz : Int) = szI ns
  kd : KdOk K t ρ
  tl : Cl.o tl (listP ((List.range t.sz).map fun i => .ref (t.ad i))) ∈ ρ
  mr : Cl.o r (listP rv) ∈ ρ
  hr : IntsAre rv (rowsI ns)
  mo : Cl.o ro (listP rov) ∈ ρ
  ho : IntsAre rov [rootI ns 0, rootI ns 1, rootI ns 2]
  en : EncAt ns ki x dx sep ρ
  c66 : Cl.o 66 (eqP (tabObj #[])) ∈ ρ
theorem Base.mono {ns : List Int} {tl r ro : Addr} {rv rov : List Value} {ki : Tok} {x dx : Addr} {sep : Option Value} {ρ ρ' : SH} (h : Base B ns t K tl r ro rv rov ki x dx sep ρ) (hs : ∀ c ∈ ρ, c ∈ ρ') : Base B ns t K tl r ro rv rov ki x dx sep ρ' :=
  ⟨h.to, h.sz, h.kd.mono hs, hs _ h.tl, hs _ h.mr, h.hr, hs _ h.mo, h.ho, h.en.mono hs, hs _ h.c66⟩
theorem law_pA {l : Addr} {vals : List Value} {ns : List Int} {c1 c2 c3 c4 c5 c6 c7 : Addr} {Φ : Flow → SH → Prop} (E : EnvOk env lawKs lawFs) (GE : GlbOk env lawGs) (CK : CellOk env lawFs) (hs : env.scope = fnScope lawSt) (CE : env.cells = lawFs.zip [c1, c2, c3, c4, c5, c6, c7]) (hh : A.handled = none) (hr : Roomy A 51)
    (hL : B.G.IsList l vals.toArray) (hI : IntsAre vals ns) (hn : ns.length ≤ 63)
    (y : ∀ (t : Th) (K : Kd) tl r d rv x dx sep ro rov kt ki kl ks j parts part v iv xv ρ, Base B ns t K tl r ro rv rov ki x dx sep ρ →
      Sw B A (execs ((fnBody lawSt).drop 11) env) Φ NoE (.o env.locals (frameP lawKs (law6V l r d j parts part v (some (.int (trn ns) kt)) (some (.ref ro)) (some (.int (leftI ns) kl)))) ::
        lawCs c1 c2 c3 c4 c5 c6 c7 (some (.ref x)) (some (indV (indI ns) ki)) iv (some (.ref K.kl)) (some (.ref tl)) (some (.int (szI ns) ks)) xv (.o 181 (eqP (tabObj #[])) :: (thW t B.w ++ (.o 73 (eqP (tabObj #[])) :: ρ))))) :
    Sw B A (execs (fnBody lawSt) env) Φ NoE (.o env.locals (frameP lawKs (lawVs (some (.ref l)) none none none none none none none none none none none none none none none none none none none none none)) ::
      lawCs c1 c2 c3 c4 c5 c6 c7 none none none none none none none (lawTS #[] #[] #[])) := by
  refine law_a0 (c1 := c1) (c2 := c2) (c3 := c3) (c4 := c4) (c5 := c5) (c6 := c6) (c7 := c7) E hs hh hL hI hn fun r rv hrv => ?_
  refine Sw.subp (τ := .o env.locals (frameP lawKs (lawVs (some (.ref l)) (some (.ref r)) none none none none none none none none none none none none none none none none none none none none)) ::
      lawCs c1 c2 c3 c4 c5 c6 c7 none none none none none none none (.o r (listP rv) :: lawTS #[] #[] #[])) ?_ (by walk_at "subc")
  refine law_a1 E CK CE hh hrv fun d dv tl kl ks hdv => ?_
  refine Sw.subp (τ := .o env.locals (frameP lawKs (law4V l r d none none none none)) ::
      lawCs c1 c2 c3 c4 c5 c6 c7 none none none (some (.ref kl)) (some (.ref tl)) (some (.int (szI ns) ks)) none (.o kl (listP []) :: .o tl (listP []) :: .o r (listP rv) :: .o d (listP dv) :: lawTS #[] #[] #[])) ?_ (by walk_at "subc")
  refine law_s4 E GE CK hs CE hh (hr.le (by decide)) (.tail _ (.head _)) hdv fun parts iv xv xs hx hok => ?_
  obtain ⟨f1, f2⟩ := th_facts hx hok
  refine Sw.subp (τ := .o env.locals (frameP lawKs (law4V l r d none parts none none)) ::
      lawCs c1 c2 c3 c4 c5 c6 c7 none none iv (some (.ref (kdOf kl xs).kl)) (some (.ref tl)) (some (.int (szI ns) ks)) xv (thS (thOf xs) B.w (fun _ => 0) ++ (.o kl (listP (xs.map fun x => .ref x.tu)) :: .o tl (listP (xs.map fun x => .ref x.ad)) :: (kdS (kdOf kl xs) (thOf xs) ++ (.o r (listP rv) :: .o d (listP dv) :: lawTS #[] #[] #[]))))) ?_ (by walk_at "subc")
  have kok : KdOk (kdOf kl xs) (thOf xs) (.o kl (listP (xs.map fun x => .ref x.tu)) :: .o tl (listP (xs.map fun x => .ref x.ad)) :: (kdS (kdOf kl xs) (thOf xs) ++ (.o r (listP rv) :: .o d (listP dv) :: lawTS #[] #[] #[]))) :=
    kd_ok hok (.head _) fun c hc => .tail _ (.tail _ (List.mem_append_left _ hc))
  have mt : Cl.o tl (listP ((List.range (thOf xs).sz).map fun i => .ref ((thOf xs).ad i))) ∈ (Cl.o kl (listP (xs.map fun x => .ref x.tu)) :: .o tl (listP (xs.map fun x => .ref x.ad)) :: (kdS (kdOf kl xs) (thOf xs) ++ (.o r (listP rv) :: .o d (listP dv) :: lawTS #[] #[] #[]))) := by
    rw [← tl_ok]
    exact .tail _ (.head _)
  refine law_s5 (kl := kl) (K := kdOf kl xs) (t := thOf xs) E GE CK CE hh hx kok mt rfl f1 f2 fun hto j part v iv => ?_
  have mr : Cl.o r (listP rv) ∈ (Cl.o kl (listP (xs.map fun x => .ref x.tu)) :: .o tl (listP (xs.map fun x => .ref x.ad)) :: (kdS (kdOf kl xs) (thOf xs) ++ (.o r (listP rv) :: .o d (listP dv) :: lawTS #[] #[] #[]))) :=
    .tail _ (.tail _ (List.mem_append_right _ (.head _)))
  refine law_s6 E GE CK CE hh (List.mem_append_right _ mr) hrv fun kt ki kl' ro rov hro => ?_
  refine law_s10 (l := l) (r := r) (d := d) E GE CK CE hh (hr.le (by decide)) fun x dx sep h1 h2 => ?_
  have z := y (thOf xs) (kdOf kl xs) tl r d rv x dx sep ro rov kt ki kl' ks j parts part v iv xv (.o x (eqP (instO 125 dx)) :: .o dx (frameP jeKs (jeVs (indV (indI ns) ki) sep)) :: .o ro (listP rov) :: .o 66 (eqP (tabObj #[])) :: .o kl (listP (xs.map fun x => .ref x.tu)) :: .o tl (listP (xs.map fun x => .ref x.ad)) :: (kdS (kdOf kl xs) (thOf xs) ++ [.o r (listP rv), .o d (listP dv)]))
    { to := hto
      sz := hx
      kd := kd_ok hok (.tail _ (.tail _ (.tail _ (.tail _ (.head _))))) fun c hc => .tail _ (.tail _ (.tail _ (.tail _ (.tail _ (.tail _ (List.mem_append_left _ hc))))))
      tl := by rw [← tl_ok]; exact .tail _ (.tail _ (.tail _ (.tail _ (.tail _ (.head _)))))
      mr := .tail _ (.tail _ (.tail _ (.tail _ (.tail _ (.tail _ (List.mem_append_right _ (.head _)))))))
      hr := hrv
      mo := .tail _ (.tail _ (.head _))
      ho := hro
      en := ⟨.head _, .tail _ (.head _), h1, h2⟩
      c66 := .tail _ (.tail _ (.tail _ (.head _))) }
  exact Sw.subp z (by walk_at "subc")
end
end

-- NQ
section
theorem runsS_cnt (c : Cl) : ∀ rs : List Run, cnt c (runsS rs) = cnt c (consS rs) + cnt c (liveS rs)
  | [] => rfl
  | r :: rs => by
    have h := runsS_cnt c rs
    have e1 : runsS (r :: rs) = .o r.q (genP r.n) :: (ecS r.e ++ r.live) ++ runsS rs := rfl
    have e2 : consS (r :: rs) = .o r.q (genP r.n) :: ecS r.e ++ consS rs := rfl
    have e3 : liveS (r :: rs) = r.live ++ liveS rs := rfl
    rw [e1, e2, e3]
    simp only [cnt_append, cnt_cons]
    omega
theorem consS_get {rs : List Run} {k : Nat} {r : Run} (h : rs[k]? = some r) : Cl.o r.q (genP r.n) ∈ consS rs ∧ ∀ c ∈ ecS r.e, c ∈ consS rs :=
  ⟨List.mem_flatMap.mpr ⟨r, List.mem_of_getElem? h, .head _⟩, fun c hc => List.mem_flatMap.mpr ⟨r, List.mem_of_getElem? h, .tail _ hc⟩⟩
local macro_rules | `(tactic| walk_at "subc") => `(tactic| (refine Subp.of_cnt fun _ => ?_; simp only [runsS_cnt, cnt_append, cnt_cons, cnt_nil, lawVs, law4V, law6V]; omega))
section
variable {B : Bx} {A : Around} {Ψ : Value → SH → Prop} {σ τ S R T : SH} {env : Env} {t : Th} {K : Kd}
theorem law_pB {ns : List Int} {l r d tl ro x dx : Addr} {rv rov : List Value} {ki kt kl ks : Tok} {sep : Option Value} {j parts part v iv xv : Option Value} {ρ : SH} {c1 c2 c3 c4 c5 c6 c7 : Addr} {Φ : Flow → SH → Prop} (E : EnvOk env lawKs lawFs) (GE : GlbOk env lawGs) (hs : env.scope = fnScope lawSt) (CE : env.cells = lawFs.zip [c1, c2, c3, c4, c5, c6, c7]) (hh : A.handled = none) (hr : Roomy A 51) (hfr : A.frames = some [env]) (hf : env.frame = some env.locals)
    (ba : Base B ns t K tl r ro rv rov ki x dx sep ρ)
    (y : ∀ ru to en gi ol rs tv ev gv S Sh σ' qs a b, Full S → RsOk B t S ns σ' qs rs → Vals rs tv ev gv → I73 Sh → (∀ (k : Nat) (r : Run), rs[k]? = some r → r.en = 0 → (k : Int) = leftI ns) →
      Sw B A (execs ((fnBody lawSt).drop 17) env) Φ NoE (.o env.locals (frameP lawKs (lawVs (some (.ref l)) (some (.ref r)) (some (.ref d)) j parts part v (some (.int (trn ns) kt)) (some (.ref ro)) (some (.int (leftI ns) kl)) a (some (.ref ru)) (some (.ref to)) (some (.ref en)) (some (.ref gi)) (some (.ref ol)) b none none none none none)) ::
        lawCs c1 c2 c3 c4 c5 c6 c7 (some (.ref x)) (some (indV (indI ns) ki)) iv (some (.ref K.kl)) (some (.ref tl)) (some (.int (szI ns) ks)) xv (S ++ (Sh ++ (thW t B.w ++ (.o to (listW tv) :: .o en (listW ev) :: .o gi (listW gv) :: ρ)))))) :
    Sw B A (execs ((fnBody lawSt).drop 11) env) Φ NoE (.o env.locals (frameP lawKs (law6V l r d j parts part v (some (.int (trn ns) kt)) (some (.ref ro)) (some (.int (leftI ns) kl)))) ::
        lawCs c1 c2 c3 c4 c5 c6 c7 (some (.ref x)) (some (indV (indI ns) ki)) iv (some (.ref K.kl)) (some (.ref tl)) (some (.int (szI ns) ks)) xv (.o 181 (eqP (tabObj #[])) :: (thW t B.w ++ (.o 73 (eqP (tabObj #[])) :: ρ)))) := by
  refine law_s11 (fr' := fun a => lawVs (some (.ref l)) (some (.ref r)) (some (.ref d)) j parts part v (some (.int (trn ns) kt)) (some (.ref ro)) (some (.int (leftI ns) kl)) none (some (.ref a)) none none none none none none none none none none) (rov := rov) E hs CE hh (hr.le (by decide)) (by walk_at "nat") (fun a => by walk_at "nput") ba.ho (.tail _ ba.mo) (.tail _ ba.en.mx) (.tail _ ba.en.md) ba.en.s1 ba.en.s2 ba.to ba.sz (.tail _ ba.tl) fun ru rs S hl hS hR => ?_
  refine law_s12 (f1 := fun a => lawVs (some (.ref l)) (some (.ref r)) (some (.ref d)) j parts part v (some (.int (trn ns) kt)) (some (.ref ro)) (some (.int (leftI ns) kl)) none (some (.ref ru)) (some (.ref a)) none none none none none none none none none)
    (f2 := fun a b => lawVs (some (.ref l)) (some (.ref r)) (some (.ref d)) j parts part v (some (.int (trn ns) kt)) (some (.ref ro)) (some (.int (leftI ns) kl)) none (some (.ref ru)) (some (.ref a)) (some (.ref b)) none none none none none none none none)
    (f3 := fun a b c => lawVs (some (.ref l)) (some (.ref r)) (some (.ref d)) j parts part v (some (.int (trn ns) kt)) (some (.ref ro)) (some (.int (leftI ns) kl)) none (some (.ref ru)) (some (.ref a)) (some (.ref b)) (some (.ref c)) none none none none none none none)
    E (fun a => by walk_at "nput") (fun a b => by walk_at "nput") (fun a b c => by walk_at "nput") fun to en gi k1 k2 k3 e1 e2 e3 g1 g2 g3 => ?_
  have m1 : ∀ {wv nv iv kv tlv sv xv : Option Value}, Cl.o r (listP rv) ∈ lawCs c1 c2 c3 c4 c5 c6 c7 wv nv iv kv tlv sv xv (Cl.o ru (listP (rs.map fun r => .ref r.q)) :: (S ++ (runsS rs ++ (thW t B.w ++ (Cl.o 73 (eqP (tabObj #[])) :: ρ))))) :=
    .tail _ (.tail _ (.tail _ (.tail _ (.tail _ (.tail _ (.tail _ (.tail _ (List.mem_append_right _ (List.mem_append_right _ (List.mem_append_right _ (.tail _ ba.mr)))))))))))
  refine law_s15 (kl := kl) (fr' := fun a => lawVs (some (.ref l)) (some (.ref r)) (some (.ref d)) j parts part v (some (.int (trn ns) kt)) (some (.ref ro)) (some (.int (leftI ns) kl)) none (some (.ref ru)) (some (.ref to)) (some (.ref en)) (some (.ref gi)) (some (.ref a)) none none none none none none)
    E hs hh (by walk_at "nat") (by walk_at "nat") (fun a => by walk_at "nput") (.tail _ (.tail _ (.tail _ m1))) ba.hr fun ol os hos => ?_
  refine Sw.subp (τ := .o env.locals (frameP lawKs (lawVs (some (.ref l)) (some (.ref r)) (some (.ref d)) j parts part v (some (.int (trn ns) kt)) (some (.ref ro)) (some (.int (leftI ns) kl)) none (some (.ref ru)) (some (.ref to)) (some (.ref en)) (some (.ref gi)) (some (.ref ol)) none none none none none none)) ::
    .o to (listP [.str (Str.ofString "") k1, .str (Str.ofString "") k2, .str (Str.ofString "") k3]) :: .o en (listP [.int 0 e1, .int 0 e2, .int 0 e3]) :: .o gi (listP [.int 0 g1, .int 0 g2, .int 0 g3]) :: (liveS rs ++ ([.o 73 (eqP (tabObj #[]))] ++
      (S ++ (thW t B.w ++ (consS rs ++ (ordC os ++ (.o ru (listP (rs.map fun r => .ref r.q)) :: .o ol (listP (os.map fun o => .ref o.ad)) :: lawCs c1 c2 c3 c4 c5 c6 c7 (some (.ref x)) (some (indV (indI ns) ki)) iv (some (.ref K.kl)) (some (.ref tl)) (some (.int (szI ns) ks)) xv ρ)))))))) ?_ (by walk_at "subc")
  refine law_s16 (F := fun a b => lawVs (some (.ref l)) (some (.ref r)) (some (.ref d)) j parts part v (some (.int (trn ns) kt)) (some (.ref ro)) (some (.int (leftI ns) kl)) a (some (.ref ru)) (some (.ref to)) (some (.ref en)) (some (.ref gi)) (some (.ref ol)) b none none none none none) (ru := ru) (ol := ol) (os := os) (qs := rs.map fun r => .ref r.q) (ns := ns) (S := S) (t := t)
    E GE ⟨fun a b => by walk_at "nat", fun a b => by walk_at "nat", fun a b => by walk_at "nat", fun a b => by walk_at "nat", fun a b v => by walk_at "nput", fun a b v => by walk_at "nput", fun v b => by walk_at "nat", fun a v => by walk_at "nat"⟩ (fun a b => by walk_at "nat") hh (hr.le (by decide)) hfr hf ba.to ba.sz
    (List.mem_append_right _ (List.mem_append_right _ (List.mem_append_right _ (List.mem_append_right _ (.head _))))) (List.mem_append_right _ (List.mem_append_right _ (List.mem_append_right _ (List.mem_append_right _ (.tail _ (.head _))))))
    (fun c hc => List.mem_append_right _ (List.mem_append_right _ (List.mem_append_right _ (List.mem_append_left _ hc)))) hos
    ⟨hl, fun k r hk => ⟨(hR k r hk).1, fun c hc => ?_, List.mem_append_right _ (List.mem_append_right _ (List.mem_append_left _ (consS_get hk).1)), by rw [List.getElem?_map, hk]; rfl⟩⟩
    (fun r hr => by obtain ⟨k, hk⟩ := List.mem_iff_getElem?.mp hr; exact (hR k r hk).2) (.inl rfl) fun rs tv ev gv Sh a b hR2 hv hSh hleft => ?_
  · rcases List.mem_append.mp hc with hc | hc
    · exact List.mem_append_right _ (List.mem_append_right _ (List.mem_append_left _ ((consS_get hk).2 c hc)))
    · rcases List.mem_append.mp hc with hc | hc
      · exact List.mem_append_left _ hc
      · exact List.mem_append_right _ (List.mem_append_left _ hc)
  · exact Sw.subp (y ru to en gi ol rs tv ev gv S Sh _ _ a b hS hR2 hv hSh hleft) (by walk_at "subc")
end
end

-- NR
section
local macro_rules | `(tactic| walk_at "subc") => `(tactic| (refine Subp.of_cnt fun _ => ?_; simp only [cnt_append, cnt_cons, cnt_nil]; omega))
section
variable {B : Bx} {A : Around} {Ψ : Value → SH → Prop} {σ τ S R T : SH} {env : Env} {t : Th} {K : Kd}
theorem thW_mem {w : World} {i : Nat} (hi : i < t.sz) : Cl.o (t.ad i) (t.word w i) ∈ thW t w := List.mem_map.mpr ⟨i, List.mem_range.mpr hi, rfl⟩
theorem law_pC {ns : List Int} {l r d tl ro x dx ru to en gi ol : Addr} {rv rov tv ev gv qs : List Value} {rs : List Run} {ki kt kl ks : Tok} {sep : Option Value} {j parts part v iv xv a b : Option Value} {ρ S Sh σ' : SH} {c1 c2 c3 c4 c5 c6 c7 : Addr} {Φ : Flow → SH → Prop} (E : EnvOk env lawKs lawFs) (GE : GlbOk env lawGs) (CK : CellOk env lawFs) (hs : env.scope = fnScope lawSt) (CE : env.cells = lawFs.zip [c1, c2, c3, c4, c5, c6, c7]) (hh : A.handled = none) (hr : Roomy A 51) (hfr : A.frames = some [env]) (hf : env.frame = some env.locals)
    (ba : Base B ns t K tl r ro rv rov ki x dx sep ρ) (hS : Full S) (hR : RsOk B t S ns σ' qs rs) (hv : Vals rs tv ev gv) (hSh : I73 Sh) (hleft : ∀ (k : Nat) (r : Run), rs[k]? = some r → r.en = 0 → (k : Int) = leftI ns)
    (y : ∀ τ, (∃ p, Cl.o 181 (eqP (tabObj p)) ∈ τ) → (∃ p, Cl.o 73 (eqP (tabObj p)) ∈ τ) → Cl.o 66 (eqP (tabObj #[])) ∈ τ → Φ (.ret (.bool true)) τ) :
    Sw B A (execs ((fnBody lawSt).drop 17) env) Φ NoE (.o env.locals (frameP lawKs (lawVs (some (.ref l)) (some (.ref r)) (some (.ref d)) j parts part v (some (.int (trn ns) kt)) (some (.ref ro)) (some (.int (leftI ns) kl)) a (some (.ref ru)) (some (.ref to)) (some (.ref en)) (some (.ref gi)) (some (.ref ol)) b none none none none none)) ::
        lawCs c1 c2 c3 c4 c5 c6 c7 (some (.ref x)) (some (indV (indI ns) ki)) iv (some (.ref K.kl)) (some (.ref tl)) (some (.int (szI ns) ks)) xv (S ++ (Sh ++ (thW t B.w ++ (.o to (listW tv) :: .o en (listW ev) :: .o gi (listW gv) :: ρ))))) := by
  have hsz3 : t.sz ≤ 3 := by have := ba.sz; rcases szI_or ns with h | h <;> omega
  have u1 : ∀ c ∈ ρ, c ∈ S ++ (Sh ++ (thW t B.w ++ (.o to (listW tv) :: .o en (listW ev) :: .o gi (listW gv) :: ρ))) := fun c hc => List.mem_append_right _ (List.mem_append_right _ (List.mem_append_right _ (.tail _ (.tail _ (.tail _ hc)))))
  refine law_s17 (fr' := fun wk => lawVs (some (.ref l)) (some (.ref r)) (some (.ref d)) j parts part v (some (.int (trn ns) kt)) (some (.ref ro)) (some (.int (leftI ns) kl)) a (some (.ref ru)) (some (.ref to)) (some (.ref en)) (some (.ref gi)) (some (.ref ol)) b (some (.ref wk)) none none none none)
    (kl := K.kl) (tl := tl) E GE hs CE hh (hr.le (by decide)) (fun a => by walk_at "nput") ba.to ba.sz (ba.kd.mono u1) fun wk bs ρ2 hbs => ?_
  have u2 : ∀ c ∈ ρ, c ∈ Cl.o wk (listP (bs.map fun b => .ref b.ad)) :: (wbC t ns bs ++ (ρ2 ++ (S ++ (Sh ++ (thW t B.w ++ (.o to (listW tv) :: .o en (listW ev) :: .o gi (listW gv) :: ρ)))))) := fun c hc => .tail _ (List.mem_append_right _ (List.mem_append_right _ (u1 c hc)))
  have lo : LsOk B tl K t (Cl.o wk (listP (bs.map fun b => .ref b.ad)) :: (wbC t ns bs ++ (ρ2 ++ (S ++ (Sh ++ (thW t B.w ++ (.o to (listW tv) :: .o en (listW ev) :: .o gi (listW gv) :: ρ))))))) :=
    ⟨ba.kd.mono u2, u2 _ ba.tl, fun i hi => .tail _ (List.mem_append_right _ (List.mem_append_right _ (List.mem_append_right _ (List.mem_append_right _ (List.mem_append_left _ (thW_mem hi))))))⟩
  refine law_s18 (fr' := lawVs (some (.ref l)) (some (.ref r)) (some (.ref d)) j parts part v (some (.int (trn ns) kt)) (some (.ref ro)) (some (.int (leftI ns) kl)) a (some (.ref ru)) (some (.ref to)) (some (.ref en)) (some (.ref gi)) (some (.ref ol)) b (some (.ref wk)) (some (.bool true)) none none none)
    E GE CE hh (hr.le (by decide)) ba.to hsz3 lo (by walk_at "nput") ?_
  have lg : LG (fun j r' tx ri => lawVs (some (.ref l)) (some (.ref r)) (some (.ref d)) j parts part v (some (.int (trn ns) kt)) (some (.ref ro)) (some (.int (leftI ns) kl)) r' (some (.ref ru)) (some (.ref to)) (some (.ref en)) (some (.ref gi)) (some (.ref ol)) b (some (.ref wk)) (some (.bool true)) tx ri none) to en gi wk (.int (leftI ns) kl) :=
    ⟨fun _ _ _ _ => by walk_at "nat", fun _ _ _ _ => by walk_at "nat", fun _ _ _ _ => by walk_at "nat", fun _ _ _ _ => by walk_at "nat", fun _ _ _ _ => by walk_at "nat", fun _ _ _ _ => by walk_at "nat", fun _ _ _ _ => by walk_at "nput",
      fun _ _ _ _ _ => by walk_at "nput", fun _ _ _ _ _ => by walk_at "nput", fun _ _ _ _ _ => by walk_at "nput", fun _ _ _ _ _ => by walk_at "nput", fun _ _ _ _ => by walk_at "nat", fun _ _ _ _ => by walk_at "nat", fun _ _ _ _ => by walk_at "nat", fun _ _ _ _ => by walk_at "nat"⟩
  refine law_s19 (F := fun j r' tx ri => lawVs (some (.ref l)) (some (.ref r)) (some (.ref d)) j parts part v (some (.int (trn ns) kt)) (some (.ref ro)) (some (.int (leftI ns) kl)) r' (some (.ref ru)) (some (.ref to)) (some (.ref en)) (some (.ref gi)) (some (.ref ol)) b (some (.ref wk)) (some (.bool true)) tx ri none) (ro := ro) (rov := rov) (bs := bs) (to := to) (en := en) (gi := gi) (wk := wk)
    E GE CE lg (fun _ _ _ _ => by walk_at "nat") hh ba.to ba.sz (ba.kd.mono u2) hR hv hleft
    (.tail _ (List.mem_append_right _ (List.mem_append_right _ (List.mem_append_right _ (List.mem_append_right _ (List.mem_append_right _ (.head _)))))))
    (.tail _ (List.mem_append_right _ (List.mem_append_right _ (List.mem_append_right _ (List.mem_append_right _ (List.mem_append_right _ (.tail _ (.head _))))))))
    (.tail _ (List.mem_append_right _ (List.mem_append_right _ (List.mem_append_right _ (List.mem_append_right _ (List.mem_append_right _ (.tail _ (.tail _ (.head _)))))))))
    (.head _) hbs (fun c hc => .tail _ (List.mem_append_left _ hc)) (u2 _ ba.mo) ba.ho fun a2 b2 c2' d2 => ?_
  refine Sw.subp (τ := .o env.locals (frameP lawKs (lawVs (some (.ref l)) (some (.ref r)) (some (.ref d)) a2 parts part v (some (.int (trn ns) kt)) (some (.ref ro)) (some (.int (leftI ns) kl)) b2 (some (.ref ru)) (some (.ref to)) (some (.ref en)) (some (.ref gi)) (some (.ref ol)) b (some (.ref wk)) (some (.bool true)) c2' d2 none)) ::
        lawCs c1 c2 c3 c4 c5 c6 c7 (some (.ref x)) (some (indV (indI ns) ki)) iv (some (.ref K.kl)) (some (.ref tl)) (some (.int (szI ns) ks)) xv (S ++ (Sh ++ (thW t B.w ++ (Cl.o wk (listP (bs.map fun b => .ref b.ad)) :: (wbC t ns bs ++ ρ)))))) ?_ (by walk_at "subc")
  have u3 : ∀ c ∈ ρ, c ∈ thW t B.w ++ (Cl.o wk (listP (bs.map fun b => .ref b.ad)) :: (wbC t ns bs ++ ρ)) := fun c hc => List.mem_append_right _ (.tail _ (List.mem_append_right _ hc))
  refine law_s20 (F := fun j r' tx ri => lawVs (some (.ref l)) (some (.ref r)) (some (.ref d)) j parts part v (some (.int (trn ns) kt)) (some (.ref ro)) (some (.int (leftI ns) kl)) r' (some (.ref ru)) (some (.ref to)) (some (.ref en)) (some (.ref gi)) (some (.ref ol)) b (some (.ref wk)) (some (.bool true)) tx ri none) (wk := wk) (bs := bs) (to := to) (en := en) (gi := gi)
    E GE CK CE lg hh hr hfr hf ba.to hsz3 (ba.en.mono u3) hS hSh (u3 _ ba.tl) (fun i hi => List.mem_append_left _ (thW_mem hi)) (List.mem_append_right _ (.head _)) hbs (fun c hc => List.mem_append_right _ (.tail _ (List.mem_append_left _ hc))) fun a3 b3 c3' d3 iv3 Sh3 hSh3 => ?_
  have u4 : ∀ c ∈ ρ, c ∈ S ++ (Sh3 ++ (thW t B.w ++ (Cl.o wk (listP (bs.map fun b => .ref b.ad)) :: (wbC t ns bs ++ ρ)))) := fun c hc => List.mem_append_right _ (List.mem_append_right _ (u3 c hc))
  refine law_s21 E GE CE hh (hr.le (by decide)) ba.to hsz3 ⟨ba.kd.mono u4, u4 _ ba.tl, fun i hi => List.mem_append_right _ (List.mem_append_right _ (List.mem_append_left _ (thW_mem hi)))⟩ (by walk_at "nat") (by walk_at "nput") ?_
  have lh : LH (fun th tx ri => lawVs (some (.ref l)) (some (.ref r)) (some (.ref d)) a3 parts part v (some (.int (trn ns) kt)) (some (.ref ro)) (some (.int (leftI ns) kl)) b3 (some (.ref ru)) (some (.ref to)) (some (.ref en)) (some (.ref gi)) (some (.ref ol)) b (some (.ref wk)) (some (.bool true)) tx ri th) :=
    ⟨fun _ _ _ => by walk_at "nat", fun _ _ _ => by walk_at "nput", fun _ _ _ _ => by walk_at "nput", fun _ _ _ _ => by walk_at "nput", fun _ _ _ _ => by walk_at "nput", fun _ _ _ => by walk_at "nat", fun _ _ _ => by walk_at "nat"⟩
  refine Sw.subp (τ := .o env.locals (frameP lawKs (lawVs (some (.ref l)) (some (.ref r)) (some (.ref d)) a3 parts part v (some (.int (trn ns) kt)) (some (.ref ro)) (some (.int (leftI ns) kl)) b3 (some (.ref ru)) (some (.ref to)) (some (.ref en)) (some (.ref gi)) (some (.ref ol)) b (some (.ref wk)) (some (.bool true)) c3' d3 none)) ::
        lawCs c1 c2 c3 c4 c5 c6 c7 (some (.ref x)) (some (indV (indI ns) ki)) iv3 (some (.ref K.kl)) (some (.ref tl)) (some (.int (szI ns) ks)) xv (thW t B.w ++ (S ++ (Sh3 ++ ρ)))) ?_ (by walk_at "subc")
  have u5 : ∀ c ∈ ρ, c ∈ S ++ (Sh3 ++ ρ) := fun c hc => List.mem_append_right _ (List.mem_append_right _ hc)
  refine law_s22 (G := fun th tx ri => lawVs (some (.ref l)) (some (.ref r)) (some (.ref d)) a3 parts part v (some (.int (trn ns) kt)) (some (.ref ro)) (some (.int (leftI ns) kl)) b3 (some (.ref ru)) (some (.ref to)) (some (.ref en)) (some (.ref gi)) (some (.ref ol)) b (some (.ref wk)) (some (.bool true)) tx ri th)
    E GE CK CE lh hh ba.to hsz3 (ba.kd.mono u5) (u5 _ ba.tl) fun a4 iv4 f hf7 => ?_
  refine Sw.subp (τ := .o env.locals (frameP lawKs (lawVs (some (.ref l)) (some (.ref r)) (some (.ref d)) a3 parts part v (some (.int (trn ns) kt)) (some (.ref ro)) (some (.int (leftI ns) kl)) b3 (some (.ref ru)) (some (.ref to)) (some (.ref en)) (some (.ref gi)) (some (.ref ol)) b (some (.ref wk)) (some (.bool true)) c3' d3 a4)) ::
        lawCs c1 c2 c3 c4 c5 c6 c7 (some (.ref x)) (some (indV (indI ns) ki)) iv4 (some (.ref K.kl)) (some (.ref tl)) (some (.int (szI ns) ks)) xv (S ++ (Sh3 ++ (cellsT t f ++ ρ)))) ?_ (by walk_at "subc")
  have u6 : ∀ c ∈ ρ, c ∈ cellsT t f ++ ρ := fun c hc => List.mem_append_right _ hc
  refine law_s23 (G := fun th tx ri => lawVs (some (.ref l)) (some (.ref r)) (some (.ref d)) a3 parts part v (some (.int (trn ns) kt)) (some (.ref ro)) (some (.int (leftI ns) kl)) b3 (some (.ref ru)) (some (.ref to)) (some (.ref en)) (some (.ref gi)) (some (.ref ol)) b (some (.ref wk)) (some (.bool true)) tx ri th)
    E GE CK CE lh hh hr hfr hf ba.to hsz3 (ba.en.mono u6) hS hSh3 (ba.kd.mono u6) (u6 _ ba.tl) (fun k hk => by
      obtain ⟨k7, h7⟩ := hf7 k hk
      exact ⟨k7, by rw [← h7]; exact List.mem_append_left _ (cellsT_mem hk)⟩) fun a5 b5 c5' iv5 Sh5 jk hSh5 => ?_
  obtain ⟨cd, tb, _, hS2⟩ := hS
  refine y _ ⟨tb, ?_⟩ ?_ ?_
  · rw [hS2]
    exact .tail _ (.tail _ (.tail _ (.tail _ (.tail _ (.tail _ (.tail _ (.tail _ (.head _))))))))
  · rcases hSh5 with h | ⟨c', h⟩
    · exact ⟨#[], by rw [h]; exact .tail _ (.tail _ (.tail _ (.tail _ (.tail _ (.tail _ (.tail _ (.tail _ (List.mem_append_right _ (.head _)))))))))⟩
    · exact ⟨tab1 c', by rw [h]; exact .tail _ (.tail _ (.tail _ (.tail _ (.tail _ (.tail _ (.tail _ (.tail _ (List.mem_append_right _ (.head _)))))))))⟩
  · exact .tail _ (.tail _ (.tail _ (.tail _ (.tail _ (.tail _ (.tail _ (.tail _ (List.mem_append_right _ (List.mem_append_right _ (List.mem_append_right _ (List.mem_append_right _ ba.c66)))))))))))
end
end

-- NS
section
theorem law_main : LawMain := by
  intro B l vals ns L c1 c2 c3 c4 c5 c6 c7 hL hI hn
  have E := law_env B.w L [c1, c2, c3, c4, c5, c6, c7]
  have GE := law_g B.w L [c1, c2, c3, c4, c5, c6, c7]
  have CK := law_ck B.w L [c1, c2, c3, c4, c5, c6, c7]
  have CE := law_cells B.w L [c1, c2, c3, c4, c5, c6, c7]
  have hs : (envC (fdK B.w 218) L 218 [c1, c2, c3, c4, c5, c6, c7]).scope = fnScope lawSt := law_s B.w
  have hf : (envC (fdK B.w 218) L 218 [c1, c2, c3, c4, c5, c6, c7]).frame = some L := rfl
  have hfr : (callerA.deeper (envC (fdK B.w 218) L 218 [c1, c2, c3, c4, c5, c6, c7])).frames = some [envC (fdK B.w 218) L 218 [c1, c2, c3, c4, c5, c6, c7]] := rfl
  have hh : (callerA.deeper (envC (fdK B.w 218) L 218 [c1, c2, c3, c4, c5, c6, c7])).handled = none := rfl
  have hr : Roomy (callerA.deeper (envC (fdK B.w 218) L 218 [c1, c2, c3, c4, c5, c6, c7])) 51 := by
    have h : Roomy callerA 52 := ⟨by decide, by decide⟩
    exact h.deeper
  have hl : L = (envC (fdK B.w 218) L 218 [c1, c2, c3, c4, c5, c6, c7]).locals := rfl
  generalize envC (fdK B.w 218) L 218 [c1, c2, c3, c4, c5, c6, c7] = env at E GE CK CE hs hf hfr hh hr hl ⊢
  generalize callerA.deeper env = A at hfr hh hr ⊢
  subst hl
  show Sw B A _ _ NoE (.o env.locals (frameP lawKs (lawVs (some (.ref l)) none none none none none none none none none none none none none none none none none none none none none)) ::
      lawCs c1 c2 c3 c4 c5 c6 c7 none none none none none none none (lawTS #[] #[] #[]))
  refine law_pA E GE CK hs CE hh hr hL hI hn fun t K tl r d rv x dx sep ro rov kt ki kl ks j parts part v iv xv ρ ba => ?_
  refine law_pB E GE hs CE hh hr hfr hf ba fun ru to en gi ol rs tv ev gv S Sh σ' qs a b hS hR hv hSh hleft => ?_
  refine law_pC E GE CK hs CE hh hr hfr hf ba hS hR hv hSh hleft fun τ h1 h2 h3 => ?_
  obtain ⟨p1, h1⟩ := h1
  obtain ⟨p3, h2⟩ := h2
  refine ⟨τ, List.Sublist.refl _, rfl, p1, #[], p3, fun c hc => ?_⟩
  simp only [lawTS, List.mem_cons, List.not_mem_nil, or_false] at hc
  rcases hc with rfl | rfl | rfl
  · exact h1
  · exact h3
  · exact h2
end

end
end Mine
theorem PySem.Challenge.cw_ah5030_01_holds : PySem.Challenge.rw_ah5030_01.Holds := by
  exact Mine.law_holds Mine.law_main
